import JvmDerived
import JvmDerived.Pilot.@@N@@Statement
import JvmDerived.Pilot.@@N@@Code
set_option linter.unusedVariables false
set_option linter.unusedSimpArgs false
namespace Jvm.RoadKit
open Sem ClassFile Op Lib Jvm.Stand Jvm.Free Jvm.LawKit
theorem own_lrem_eq (x y : Int64) : x - x / y * y = x % y := by
  have h1 := Int64.le_toInt (x % y)
  have h2 := Int64.toInt_lt (x % y)
  have h3 : x.toInt - x.toInt.tdiv y.toInt * y.toInt = (x % y).toInt := by
    rw [Int64.toInt_mod, Int.mul_comm, ← Int.tmod_def]
  apply Int64.toInt_inj.mp
  rw [Int64.toInt_sub, Int64.toInt_mul, Int64.toInt_div, Int.bmod_mul_bmod, Int.sub_bmod_bmod, h3]
  exact Int.bmod_eq_of_le_mul_two (by omega) (by omega)
theorem own_lremM {p : Program} {l : Launch} {e : Env} {R : Room} {s : State} {m : MethodId} {args : Array Value} {below : List Frame} {meth : Method} {c : Code} {T : State} {locs : List Loc} {cells slots : Nat} {g : JFrame} {target : State} (X : Stand p l e R s m args below meth c T locs cells slots) (hx : p.tables.exec = Jvm.exec) (hg : g.method = m) {x y : Int64} {rest : List Value} (hd : decode c.code g.pc = .ok (.lrem, 1)) (hs : g.stack = .long y :: .long x :: rest) (hy : y ≠ 0)
    (hr : Steps p.tables e below (T.setTop { g with pc := g.pc + 1, stack := .long (x % y) :: rest }) target) : Steps p.tables e below (T.setTop g) target :=
  XS.lrem X.here hx hg hd hs hy (by rw [own_lrem_eq x y]; exact hr)
end Jvm.RoadKit
/- laws to paste: Road.backV, Road.chN, Road.codOf (cut by pick.py; bodies as the Statement names them) -/
namespace Jvm.Pilot.@@N@@
namespace StrChars
open Jvm Sem ClassFile Op Lib Jvm.Stand Jvm.Free.XT Jvm.Free.ALB Jvm.Free.JM Jvm.Free
open Jvm.Lib.Cold (StaticIs)
/-- a char array whose places are chars -/
def Ch (a : Addr) (A : Cell) (U : State) : Prop := Arr .char a A U ∧ Typed .char A
theorem Ch.mv {a : Addr} {A : Cell} {U U' : State} (h : Ch a A U) (hal : U.vm.Alike U'.vm) (hh : U'.heap = U.heap) : Ch a A U' := ⟨h.1.mv hal hh, h.2⟩
theorem Ch.keep {a : Addr} {A : Cell} {U U' : State} (h : Ch a A U) (hal : U.vm.Alike U'.vm) (hk : U'.heap[a]? = some A) : Ch a A U' := ⟨h.1.keep hal hk, h.2⟩
/-- what place i of a char[]'s cell holds -/
def cv (A : Cell) (i : Nat) : Int32 := match A.slots[i]? with | some (.int x) => x | _ => 0
theorem Ch.get {a : Addr} {A : Cell} {U : State} (h : Ch a A U) {i : Nat} (hi : i < A.slots.size) : A.slots[i]? = some (.int (cv A i)) := by
  have e := Array.getElem?_eq_getElem hi
  have f := h.2 i _ e
  unfold cv; rw [e]
  generalize A.slots[i] = v at f
  cases v <;> simp [fits] at f ⊢
/-- the byte that i2b leaves of a char -/
def lo8 (x : Int32) : Int32 := x.toInt8.toInt32
theorem fits_lo8 (y : Int32) : fits .byte (.int (lo8 y)) = true := by
  have h1 := y.toInt8.le_toInt
  have h2 := y.toInt8.toInt_lt
  simp only [lo8, fits, Bool.and_eq_true, decide_eq_true_eq, Int32.le_iff_toInt_le, Int8.toInt_toInt32, show (-128 : Int32).toInt = -128 from by decide, show (127 : Int32).toInt = 127 from by decide]
  omega
/-- A' is A but that each place j of lo .. hi - 1 holds f j -/
def Laid (A A' : Cell) (lo hi : Nat) (f : Nat → Value) : Prop := A'.cls = A.cls ∧ A'.vm = A.vm ∧ A'.slots.size = A.slots.size ∧ ∀ i, A'.slots[i]? = if lo ≤ i ∧ i < hi then some (f i) else A.slots[i]?
theorem Laid.zero (A : Cell) (lo : Nat) (f : Nat → Value) : Laid A A lo (lo + 0) f := ⟨rfl, rfl, rfl, fun i => by rw [if_neg (by omega)]⟩
theorem Laid.step {A Ak : Cell} {lo k : Nat} {f : Nat → Value} {v : Value} (h : Laid A Ak lo k f) (hlo : lo ≤ k) (hk : k < Ak.slots.size) (hv : v = f k) : Laid A (Ak.setSlot k v) lo (k + 1) f := by
  refine ⟨h.1, h.2.1, by simpa [Cell.setSlot] using h.2.2.1, fun i => ?_⟩
  by_cases e : k = i
  · subst e; rw [Cell.slots_setSlot_self v hk, if_pos (by omega), hv]
  · rw [Cell.slots_setSlot_ne v e, h.2.2.2 i]
    by_cases q : lo ≤ i ∧ i < k
    · rw [if_pos q, if_pos (by omega)]
    · rw [if_neg q, if_neg (by omega)]
def U16 : String := "java/lang/StringUTF16"
namespace Cmp5
def yN : MethodName := ⟨"java/lang/StringUTF16", "compress", "([CI[BII)I"⟩
abbrev yB : ByteArray := jdk_52_method_21_code
theorem d0 : decode yB 0 = .ok (.iconst 0, 1) := by decide +kernel
theorem d1 : decode yB 1 = .ok (.istore 5, 2) := by decide +kernel
theorem d3 : decode yB 3 = .ok (.iload 5, 2) := by decide +kernel
theorem d5 : decode yB 5 = .ok (.iload 4, 2) := by decide +kernel
theorem d7 : decode yB 7 = .ok (.if_icmp (.ge) 37, 3) := by decide +kernel
theorem d10 : decode yB 10 = .ok (.aload_n 0, 1) := by decide +kernel
theorem d11 : decode yB 11 = .ok (.iload_n 1, 1) := by decide +kernel
theorem d12 : decode yB 12 = .ok (.caload, 1) := by decide +kernel
theorem d13 : decode yB 13 = .ok (.istore 6, 2) := by decide +kernel
theorem d15 : decode yB 15 = .ok (.iload 6, 2) := by decide +kernel
theorem d17 : decode yB 17 = .ok (.sipush 255, 3) := by decide +kernel
theorem d20 : decode yB 20 = .ok (.if_icmp (.le) 6, 3) := by decide +kernel
theorem d26 : decode yB 26 = .ok (.aload_n 2, 1) := by decide +kernel
theorem d27 : decode yB 27 = .ok (.iload_n 3, 1) := by decide +kernel
theorem d28 : decode yB 28 = .ok (.iload 6, 2) := by decide +kernel
theorem d30 : decode yB 30 = .ok (.i2b, 1) := by decide +kernel
theorem d31 : decode yB 31 = .ok (.bastore, 1) := by decide +kernel
theorem d32 : decode yB 32 = .ok (.iinc 1 1, 3) := by decide +kernel
theorem d35 : decode yB 35 = .ok (.iinc 3 1, 3) := by decide +kernel
theorem d38 : decode yB 38 = .ok (.iinc 5 1, 3) := by decide +kernel
theorem d41 : decode yB 41 = .ok (.goto (-38), 3) := by decide +kernel
theorem d44 : decode yB 44 = .ok (.iload 4, 2) := by decide +kernel
theorem d46 : decode yB 46 = .ok (.ireturn, 1) := by decide +kernel
def site : List Cond := []
def tab : Cond := tabOf yN yB 7 (some .int) site
def P (b : Addr) (A : Cell) (d : Addr) (B : Cell) (o q len : Nat) (args : Array Value) (s : State) : Prop := args = #[.ref b, .int (Int32.ofNat o), .ref d, .int (Int32.ofNat q), .int (Int32.ofNat len)] ∧ Ch b A s ∧ Arr .byte d B s ∧ b ≠ d ∧ o + len ≤ A.slots.size ∧ q + len ≤ B.slots.size ∧ ∀ i, i < len → ¬ 255 < cv A (o + i)
def E (b : Addr) (A : Cell) (d : Addr) (B : Cell) (o q len : Nat) (r : Option Value) (s u : State) : Prop := r = some (.int (Int32.ofNat len)) ∧ ∃ B', Put d B' s u ∧ Laid B B' q (q + len) (fun j => Value.int (lo8 (cv A (o + (j - q)))))
/-- no char of the range above 255: len; the places written hold each char's low byte -/
theorem law (l : Launch) (b : Addr) (A : Cell) (d : Addr) (B : Cell) (o q len : Nat) : Law l yN 5 5 0 0 yB 7 (some .int) site (P b A d B o q len) (E b A d B o q len) (copyLocs d q len) 0 0 := by
  refine Law.of_walk (plainFor_of_name (by decide +kernel)) (by decide +kernel) (by decide +kernel) (by decide) (fun _ _ h => by rw [h.1]; rfl) (fun _ U U' hal hh h => ⟨h.1, h.2.1.mv hal hh, h.2.2.1.mv hal hh, h.2.2.2⟩) (fun r U U' V V' h1 hal h2 h => ⟨h.1, h.2.elim fun B' q => ⟨B', q.1.mv h1 h2, q.2⟩⟩) ?_
  intro p e s m args below meth c s₁ X0 hexec hbytes hml hret hlk hnm hown hh0 W hP
  obtain ⟨rfl, hA, hB, hne, l1, l2, hp⟩ := hP
  have c1 : Steps p.tables e below (s₁.setTop (entryFrame m #[.ref b, .int (Int32.ofNat o), .ref d, .int (Int32.ofNat q), .int (Int32.ofNat len)] 7)) (s₁.setTop (mkF m 0 #[.val (.ref b), .val (.int (Int32.ofNat o)), .val (.ref d), .val (.int (Int32.ofNat q)), .val (.int (Int32.ofNat len)), .unset, .unset] [])) := entry rfl
  have hA0 := hA.1.mv X0.warmed.alike hh0
  have hB0 := hB.mv X0.warmed.alike hh0
  have a31 := hA.1.2.2.2
  have c2 : Steps p.tables e below (s₁.setTop (entryFrame m #[.ref b, .int (Int32.ofNat o), .ref d, .int (Int32.ofNat q), .int (Int32.ofNat len)] 7)) (s₁.setTop (mkF m 3 #[.val (.ref b), .val (.int (Int32.ofNat o)), .val (.ref d), .val (.int (Int32.ofNat q)), .val (.int (Int32.ofNat len)), .val (.int 0), .unset] [])) := c1.trans (by
    refine iconstV X0.here hexec rfl 0 (hb hbytes d0) (by decide) ?_
    refine XS.istore X0.here hexec rfl (hb hbytes d1) rfl rfl ?_
    exact Steps.refl _)
  have loop : ∀ (r i : Nat), i + r = len → ∀ (z : Slot), (z = .unset ∨ ∃ w, z = .val w ∧ w.category = 1) → ∀ (Tl : State) (Bk : Cell), Stand p l e { frames := 0, locals := 0, cells := 0, slots := 0 } s m #[.ref b, .int (Int32.ofNat o), .ref d, .int (Int32.ofNat q), .int (Int32.ofNat len)] below meth c Tl ([] ++ copyLocs d q i) 0 0 → Put d Bk s₁ Tl → Laid B Bk q (q + i) (fun j => Value.int (lo8 (cv A (o + (j - q))))) →
      Steps p.tables e below (s₁.setTop (entryFrame m #[.ref b, .int (Int32.ofNat o), .ref d, .int (Int32.ofNat q), .int (Int32.ofNat len)] 7)) (Tl.setTop (mkF m 3 #[.val (.ref b), .val (.int (Int32.ofNat (o + i))), .val (.ref d), .val (.int (Int32.ofNat (q + i))), .val (.int (Int32.ofNat len)), .val (.int (Int32.ofNat i)), z] [])) → ∃ (T' : State) (B' : Cell) (z' : Slot), Stand p l e { frames := 0, locals := 0, cells := 0, slots := 0 } s m #[.ref b, .int (Int32.ofNat o), .ref d, .int (Int32.ofNat q), .int (Int32.ofNat len)] below meth c T' ([] ++ copyLocs d q len) 0 0 ∧ Put d B' s₁ T' ∧ Laid B B' q (q + len) (fun j => Value.int (lo8 (cv A (o + (j - q))))) ∧
      Steps p.tables e below (s₁.setTop (entryFrame m #[.ref b, .int (Int32.ofNat o), .ref d, .int (Int32.ofNat q), .int (Int32.ofNat len)] 7)) (T'.setTop (mkF m 3 #[.val (.ref b), .val (.int (Int32.ofNat (o + len))), .val (.ref d), .val (.int (Int32.ofNat (q + len))), .val (.int (Int32.ofNat len)), .val (.int (Int32.ofNat len)), z'] [])) := by
    intro r
    induction r with
    | zero =>
      intro i hi z hz Tl Bk Xl pl fl cl
      have hil : i = len := by omega
      rw [hil] at Xl fl cl
      exact ⟨Tl, Bk, z, Xl, pl, fl, cl⟩
    | succ r ih =>
      intro i hi z hz Tl Bk Xl pl fl cl
      have all := X0.warmed.alike.symm.trans Xl.warmed.alike
      have hAl := hA0.keep all (pl.other hne hA0.1)
      have hBk := hB0.like all pl.1 fl.1 fl.2.1 fl.2.2.1
      have hlt : q + i < Bk.slots.size := by rw [fl.2.2.1]; omega
      have c3 : Steps p.tables e below (s₁.setTop (entryFrame m #[.ref b, .int (Int32.ofNat o), .ref d, .int (Int32.ofNat q), .int (Int32.ofNat len)] 7)) (Tl.setTop (mkF m 12 #[.val (.ref b), .val (.int (Int32.ofNat (o + i))), .val (.ref d), .val (.int (Int32.ofNat (q + i))), .val (.int (Int32.ofNat len)), .val (.int (Int32.ofNat i)), z] [.int (Int32.ofNat (o + i)), .ref b])) := cl.trans (by
        refine XS.iload Xl.here hexec rfl (hb hbytes d3) rfl ?_
        refine XS.iload Xl.here hexec rfl (hb hbytes d5) rfl ?_
        refine XS.icmpNo Xl.here hexec rfl (hb hbytes d7) rfl (ii_ge_f (lt32 (by omega) (by omega))) ?_
        refine XS.aloadN Xl.here hexec rfl (hb hbytes d10) rfl rfl ?_
        refine XS.iloadN Xl.here hexec rfl (hb hbytes d11) rfl ?_
        exact Steps.refl _)
      have c4 : Steps p.tables e below (s₁.setTop (entryFrame m #[.ref b, .int (Int32.ofNat o), .ref d, .int (Int32.ofNat q), .int (Int32.ofNat len)] 7)) (Tl.setTop (mkF m 13 #[.val (.ref b), .val (.int (Int32.ofNat (o + i))), .val (.ref d), .val (.int (Int32.ofNat (q + i))), .val (.int (Int32.ofNat len)), .val (.int (Int32.ofNat i)), z] [.int (cv A (o + i))])) := c3.trans (by
        refine Xl.aget hexec hAl rfl (hA.get (i := o + i) (by omega)) rfl rfl (hb hbytes d12) ?_
        exact Steps.refl _)
      have c5 : Steps p.tables e below (s₁.setTop (entryFrame m #[.ref b, .int (Int32.ofNat o), .ref d, .int (Int32.ofNat q), .int (Int32.ofNat len)] 7)) (Tl.setTop (mkF m 15 #[.val (.ref b), .val (.int (Int32.ofNat (o + i))), .val (.ref d), .val (.int (Int32.ofNat (q + i))), .val (.int (Int32.ofNat len)), .val (.int (Int32.ofNat i)), .val (.int (cv A (o + i)))] [])) := c4.trans (by
        refine XS.istoreS Xl.here hexec rfl (hb hbytes d13) rfl rfl hz ?_
        exact Steps.refl _)
      have c6 : Steps p.tables e below (s₁.setTop (entryFrame m #[.ref b, .int (Int32.ofNat o), .ref d, .int (Int32.ofNat q), .int (Int32.ofNat len)] 7)) (Tl.setTop (mkF m 31 #[.val (.ref b), .val (.int (Int32.ofNat (o + i))), .val (.ref d), .val (.int (Int32.ofNat (q + i))), .val (.int (Int32.ofNat len)), .val (.int (Int32.ofNat i)), .val (.int (cv A (o + i)))] [.int (lo8 (cv A (o + i))), .int (Int32.ofNat (q + i)), .ref d])) := c5.trans (by
        refine XS.iload Xl.here hexec rfl (hb hbytes d15) rfl ?_
        refine sipushV Xl.here hexec rfl 255 (hb hbytes d17) (by decide) ?_
        refine XS.icmpYes Xl.here hexec rfl (pc0 := 20) rfl (hb hbytes d20) rfl (ii_le_t (hp i (by omega))) (by decide) rfl ?_
        refine XS.aloadN Xl.here hexec rfl (hb hbytes d26) rfl rfl ?_
        refine XS.iloadN Xl.here hexec rfl (hb hbytes d27) rfl ?_
        refine XS.iload Xl.here hexec rfl (hb hbytes d28) rfl ?_
        refine i2b Xl.here hexec rfl (hb hbytes d30) rfl ?_
        exact Steps.refl _)
      obtain ⟨T7, X7, p7, st7⟩ := Xl.aput hexec hBk rfl hlt rfl (fits_lo8 (cv A (o + i))) (g := (mkF m 31 #[.val (.ref b), .val (.int (Int32.ofNat (o + i))), .val (.ref d), .val (.int (Int32.ofNat (q + i))), .val (.int (Int32.ofNat len)), .val (.int (Int32.ofNat i)), .val (.int (cv A (o + i)))] [.int (lo8 (cv A (o + i))), .int (Int32.ofNat (q + i)), .ref d])) rfl (rest := []) rfl (hb hbytes d31)
      have c8 : Steps p.tables e below (s₁.setTop (entryFrame m #[.ref b, .int (Int32.ofNat o), .ref d, .int (Int32.ofNat q), .int (Int32.ofNat len)] 7)) (T7.setTop (mkF m 32 #[.val (.ref b), .val (.int (Int32.ofNat (o + i))), .val (.ref d), .val (.int (Int32.ofNat (q + i))), .val (.int (Int32.ofNat len)), .val (.int (Int32.ofNat i)), .val (.int (cv A (o + i)))] [])) := c6.trans (st7 _ (Steps.refl _))
      have c9 : Steps p.tables e below (s₁.setTop (entryFrame m #[.ref b, .int (Int32.ofNat o), .ref d, .int (Int32.ofNat q), .int (Int32.ofNat len)] 7)) (T7.setTop (mkF m 3 #[.val (.ref b), .val (.int (Int32.ofNat (o + i) + 1)), .val (.ref d), .val (.int (Int32.ofNat (q + i) + 1)), .val (.int (Int32.ofNat len)), .val (.int (Int32.ofNat i + 1)), .val (.int (cv A (o + i)))] [])) := c8.trans (by
        refine iincV X7.here hexec rfl 1 (hb hbytes d32) (by decide) rfl rfl ?_
        refine iincV X7.here hexec rfl 1 (hb hbytes d35) (by decide) rfl rfl ?_
        refine iincV X7.here hexec rfl 1 (hb hbytes d38) (by decide) rfl rfl ?_
        refine XS.goto X7.here hexec rfl (pc0 := 41) rfl (hb hbytes d41) (by decide) rfl ?_
        exact Steps.refl _)
      have c10 : Steps p.tables e below (s₁.setTop (entryFrame m #[.ref b, .int (Int32.ofNat o), .ref d, .int (Int32.ofNat q), .int (Int32.ofNat len)] 7)) (T7.setTop (mkF m 3 #[.val (.ref b), .val (.int (Int32.ofNat (o + (i + 1)))), .val (.ref d), .val (.int (Int32.ofNat (q + (i + 1)))), .val (.int (Int32.ofNat len)), .val (.int (Int32.ofNat (i + 1))), .val (.int (cv A (o + i)))] [])) := by
        have := c9
        rw [succ32, succ32, succ32] at this
        exact this
      exact ih (i + 1) (by omega) _ (Or.inr ⟨_, rfl, rfl⟩) T7 _ (by rw [copyLocs_step, ← List.append_assoc]; exact X7) (pl.trans p7) (fl.step (by omega) hlt (by simp)) c10
  obtain ⟨T9, B9, z9, X9, p9, f9, g9⟩ := loop len 0 (by omega) .unset (Or.inl rfl) s₁ B (by simpa [copyLocs] using X0) ⟨hB0.1, fun _ _ => rfl, rfl⟩ (Laid.zero _ _ _) c2
  have c11 : Steps p.tables e below (s₁.setTop (entryFrame m #[.ref b, .int (Int32.ofNat o), .ref d, .int (Int32.ofNat q), .int (Int32.ofNat len)] 7)) (T9.setTop (mkF m 46 #[.val (.ref b), .val (.int (Int32.ofNat (o + len))), .val (.ref d), .val (.int (Int32.ofNat (q + len))), .val (.int (Int32.ofNat len)), .val (.int (Int32.ofNat len)), z9] [.int (Int32.ofNat len)])) := g9.trans (by
    refine XS.iload X9.here hexec rfl (hb hbytes d3) rfl ?_
    refine XS.iload X9.here hexec rfl (hb hbytes d5) rfl ?_
    refine XS.icmpYes X9.here hexec rfl (pc0 := 7) rfl (hb hbytes d7) rfl (ii_ge_t (nlt32 (by omega) (Nat.le_refl _))) (by decide) rfl ?_
    refine XS.iload X9.here hexec rfl (hb hbytes d44) rfl ?_
    exact Steps.refl _)
  exact ⟨T9, some (.int (Int32.ofNat len)), _, _, _, X9, by simp, rfl, rfl, (fun h => by cases h), ⟨rfl, B9, p9.from hh0, f9⟩, fun fs hl => c11.trans (X9.ireturnOut hexec hret rfl (Or.inl rfl) (hb hbytes d46) hl)⟩
end Cmp5
namespace Cmp3
def yN : MethodName := ⟨"java/lang/StringUTF16", "compress", "([CII)[B"⟩
abbrev yB : ByteArray := jdk_52_method_16_code
theorem d0 : decode yB 0 = .ok (.iload_n 2, 1) := by decide +kernel
theorem d1 : decode yB 1 = .ok (.newarray .byte, 2) := by decide +kernel
theorem d3 : decode yB 3 = .ok (.astore_n 3, 1) := by decide +kernel
theorem d4 : decode yB 4 = .ok (.aload_n 0, 1) := by decide +kernel
theorem d5 : decode yB 5 = .ok (.iload_n 1, 1) := by decide +kernel
theorem d6 : decode yB 6 = .ok (.aload_n 3, 1) := by decide +kernel
theorem d7 : decode yB 7 = .ok (.iconst 0, 1) := by decide +kernel
theorem d8 : decode yB 8 = .ok (.iload_n 2, 1) := by decide +kernel
theorem d9 : decode yB 9 = .ok (.invokestatic 115, 3) := by decide +kernel
theorem d12 : decode yB 12 = .ok (.istore 4, 2) := by decide +kernel
theorem d14 : decode yB 14 = .ok (.iload 4, 2) := by decide +kernel
theorem d16 : decode yB 16 = .ok (.iload_n 2, 1) := by decide +kernel
theorem d17 : decode yB 17 = .ok (.if_icmp (.eq) 40, 3) := by decide +kernel
theorem d57 : decode yB 57 = .ok (.aload_n 3, 1) := by decide +kernel
theorem d58 : decode yB 58 = .ok (.areturn, 1) := by decide +kernel
def site : List Cond := [.arrayClass .byte, Cmp5.tab] ++ staticW U16 115 Cmp5.yN
def tab : Cond := tabOf yN yB 6 (some (.array .byte)) site
def P (b : Addr) (A : Cell) (o len : Nat) (args : Array Value) (s : State) : Prop := args = #[.ref b, .int (Int32.ofNat o), .int (Int32.ofNat len)] ∧ Ch b A s ∧ o + len ≤ A.slots.size ∧ len ≤ 536870912 ∧ ∀ i, i < len → ¬ 255 < cv A (o + i)
def E (b : Addr) (A : Cell) (o len : Nat) (r : Option Value) (s u : State) : Prop := NewArr .byte "[B" len (fun j => .int (lo8 (cv A (o + j)))) r s u ∧ u.heap.size = s.heap.size + 1
/-- no char of the range above 255: a new byte[] of their low bytes -/
theorem law (l : Launch) (b : Addr) (A : Cell) (o len : Nat) : Law l yN 3 3 1 18 yB 6 (some (.array .byte)) site (P b A o len) (E b A o len) [] 1 len := by
  refine Law.of_walk (plainFor_of_name (by decide +kernel)) (by decide +kernel) (by decide +kernel) (by decide) (fun _ _ h => by rw [h.1]; rfl) (fun _ U U' hal hh h => ⟨h.1, h.2.1.mv hal hh, h.2.2⟩) (fun r U U' V V' h1 hal h2 h => ⟨NewArr.mv r U U' V V' h1 hal h2 h.1, by rw [h1, h2]; exact h.2⟩) ?_
  intro p e s m args below meth c s₁ X0 hexec hbytes hml hret hlk hnm hown hh0 W hP
  obtain ⟨rfl, hA, l1, l2, hp⟩ := hP
  have a31 := hA.1.2.2.2
  have c1 : Steps p.tables e below (s₁.setTop (entryFrame m #[.ref b, .int (Int32.ofNat o), .int (Int32.ofNat len)] 6)) (s₁.setTop (mkF m 0 #[.val (.ref b), .val (.int (Int32.ofNat o)), .val (.int (Int32.ofNat len)), .unset, .unset, .unset] [])) := entry rfl
  have c2 : Steps p.tables e below (s₁.setTop (entryFrame m #[.ref b, .int (Int32.ofNat o), .int (Int32.ofNat len)] 6)) (s₁.setTop (mkF m 1 #[.val (.ref b), .val (.int (Int32.ofNat o)), .val (.int (Int32.ofNat len)), .unset, .unset, .unset] [.int (Int32.ofNat len)])) := c1.trans (by
    refine XS.iloadN X0.here hexec rfl (hb hbytes d0) rfl ?_
    exact Steps.refl _)
  obtain ⟨T3, B3, X3, ba3, bs3, bv3, bh3, bf3, st3⟩ := X0.anew hexec (atype := .byte) (wk W (.arrayClass .byte)) rfl (by show len * 1 ≤ _; omega) (by omega) (g := (mkF m 1 #[.val (.ref b), .val (.int (Int32.ofNat o)), .val (.int (Int32.ofNat len)), .unset, .unset, .unset] [.int (Int32.ofNat len)])) rfl (hb hbytes d1) (rest := []) rfl (Nat.le_refl _) (by show 0 + len ≤ len; omega)
  rw [hh0] at ba3 st3
  have kp3 : XT.Kept s T3 := (XT.Kept.of_eq hh0).push bh3
  have hA3 := hA.keep X3.warmed.alike (kp3 _ _ hA.1.1)
  have hne : b ≠ s.heap.size := hA.1.ne
  have c4 : Steps p.tables e below (s₁.setTop (entryFrame m #[.ref b, .int (Int32.ofNat o), .int (Int32.ofNat len)] 6)) (T3.setTop (mkF m 3 #[.val (.ref b), .val (.int (Int32.ofNat o)), .val (.int (Int32.ofNat len)), .unset, .unset, .unset] [.ref s.heap.size])) := c2.trans (st3 _ (Steps.refl _))
  have c5 : Steps p.tables e below (s₁.setTop (entryFrame m #[.ref b, .int (Int32.ofNat o), .int (Int32.ofNat len)] 6)) (T3.setTop (mkF m 9 #[.val (.ref b), .val (.int (Int32.ofNat o)), .val (.int (Int32.ofNat len)), .val (.ref s.heap.size), .unset, .unset] [.int (Int32.ofNat len), .int 0, .ref s.heap.size, .int (Int32.ofNat o), .ref b])) := c4.trans (by
    refine XS.astoreN X3.here hexec rfl (hb hbytes d3) rfl rfl rfl ?_
    refine XS.aloadN X3.here hexec rfl (hb hbytes d4) rfl rfl ?_
    refine XS.iloadN X3.here hexec rfl (hb hbytes d5) rfl ?_
    refine XS.aloadN X3.here hexec rfl (hb hbytes d6) rfl rfl ?_
    refine iconstV X3.here hexec rfl 0 (hb hbytes d7) (by decide) ?_
    refine XS.iloadN X3.here hexec rfl (hb hbytes d8) rfl ?_
    exact Steps.refl _)
  obtain ⟨v6, T6, X6, E6, g6⟩ := X3.callS hexec (Cmp5.law l b A s.heap.size B3 o 0 len) hown (wks W (staticW U16 115 Cmp5.yN)) (wk W Cmp5.tab) (W := 0) (Nat.le_of_ble_eq_true rfl) (Nat.le_of_ble_eq_true rfl) (Nat.le_refl _) (by show 0 + len + 0 ≤ len; omega) (g := (mkF m 9 #[.val (.ref b), .val (.int (Int32.ofNat o)), .val (.int (Int32.ofNat len)), .val (.ref s.heap.size), .unset, .unset] [.int (Int32.ofNat len), .int (Int32.ofNat 0), .ref s.heap.size, .int (Int32.ofNat o), .ref b])) rfl (by rw [hml]; rfl) c5 (argsL := [.ref b, .int (Int32.ofNat o), .ref s.heap.size, .int (Int32.ofNat 0), .int (Int32.ofNat len)]) (rest := []) rfl rfl (by show 2 * 0 + 0 ≤ _; decide) (hb hbytes d9) (⟨rfl, hA3, ba3, hne, l1, by rw [bs3]; simp, hp⟩)
  obtain ⟨rfl, B6, p6, f6⟩ := E6
  have c7 : Steps p.tables e below (s₁.setTop (entryFrame m #[.ref b, .int (Int32.ofNat o), .int (Int32.ofNat len)] 6)) (T6.setTop (mkF m 12 #[.val (.ref b), .val (.int (Int32.ofNat o)), .val (.int (Int32.ofNat len)), .val (.ref s.heap.size), .unset, .unset] [.int (Int32.ofNat len)])) := g6
  have c8 : Steps p.tables e below (s₁.setTop (entryFrame m #[.ref b, .int (Int32.ofNat o), .int (Int32.ofNat len)] 6)) (T6.setTop (mkF m 58 #[.val (.ref b), .val (.int (Int32.ofNat o)), .val (.int (Int32.ofNat len)), .val (.ref s.heap.size), .val (.int (Int32.ofNat len)), .unset] [.ref s.heap.size])) := c7.trans (by
    refine XS.istore X6.here hexec rfl (hb hbytes d12) rfl rfl ?_
    refine XS.iload X6.here hexec rfl (hb hbytes d14) rfl ?_
    refine XS.iloadN X6.here hexec rfl (hb hbytes d16) rfl ?_
    refine XS.icmpYes X6.here hexec rfl (pc0 := 17) rfl (hb hbytes d17) rfl (ii_eq_t rfl) (by decide) rfl ?_
    refine XS.aloadN X6.here hexec rfl (hb hbytes d57) rfl rfl ?_
    exact Steps.refl _)
  have X8 := X6.wide (L' := []) (cells' := 1) (slots' := len) (fun x hx hlt => by
    simp only [List.nil_append, copyLocs, List.mem_map, List.mem_range] at hx
    obtain ⟨i, -, rfl⟩ := hx
    exact absurd hlt (Nat.lt_irrefl _)) (Nat.le_refl _) (by omega)
  exact ⟨T6, some (.ref s.heap.size), _, _, _, X8, rfl, rfl, rfl, (fun h => by cases h), ⟨⟨rfl, B6, ba3.like (X3.warmed.alike.symm.trans X6.warmed.alike) p6.1 f6.1 f6.2.1 f6.2.2.1, f6.2.1.trans bv3, by rw [X6.warmed.alike.findClass, f6.1]; exact bf3, by rw [f6.2.2.1, bs3]; simp, fun j hj => by rw [f6.2.2.2 j, if_pos (by omega)]; rfl, kp3.put p6 (Nat.le_refl _)⟩, by rw [p6.2.2, bh3, hh0]; simp⟩, fun fs hl => c8.trans (X8.areturnOut hexec rfl hret rfl (hb hbytes d58) hl)⟩
end Cmp3
namespace CodL
def yN : MethodName := ⟨"java/lang/StringUTF16", "coderFromArrayLen", "([BI)B"⟩
abbrev yB : ByteArray := jdk_52_method_15_code
theorem d0 : decode yB 0 = .ok (.iload_n 1, 1) := by decide +kernel
theorem d1 : decode yB 1 = .ok (.aload_n 0, 1) := by decide +kernel
theorem d2 : decode yB 2 = .ok (.arraylength, 1) := by decide +kernel
theorem d3 : decode yB 3 = .ok (.isub, 1) := by decide +kernel
theorem d4 : decode yB 4 = .ok (.bipush 31, 2) := by decide +kernel
theorem d6 : decode yB 6 = .ok (.iushr, 1) := by decide +kernel
theorem d7 : decode yB 7 = .ok (.i2b, 1) := by decide +kernel
theorem d8 : decode yB 8 = .ok (.ireturn, 1) := by decide +kernel
def site : List Cond := []
def tab : Cond := tabOf yN yB 2 (some .byte) site
def P (d : Addr) (B : Cell) (args : Array Value) (s : State) : Prop := args = #[.ref d, .int (Int32.ofNat B.slots.size)] ∧ Arr .byte d B s
def E (r : Option Value) (s u : State) : Prop := XT.PureE (some (.int 0)) r s u
/-- an array as long as the number of chars: LATIN1 -/
theorem law (l : Launch) (d : Addr) (B : Cell) : Law l yN 2 2 0 0 yB 2 (some .byte) site (P d B) E [] 0 0 := by
  refine Law.of_walk (plainFor_of_name (by decide +kernel)) (by decide +kernel) (by decide +kernel) (by decide) (fun _ _ h => by rw [h.1]; rfl) (fun _ U U' hal hh h => ⟨h.1, h.2.mv hal hh⟩) (fun r U U' V V' h1 hal h2 h => XT.PureE.mv r U U' V V' h1 hal h2 h) ?_
  intro p e s m args below meth c s₁ X0 hexec hbytes hml hret hlk hnm hown hh0 W hP
  obtain ⟨rfl, hB⟩ := hP
  have hB0 := hB.mv X0.warmed.alike hh0
  have c1 : Steps p.tables e below (s₁.setTop (entryFrame m #[.ref d, .int (Int32.ofNat B.slots.size)] 2)) (s₁.setTop (mkF m 0 #[.val (.ref d), .val (.int (Int32.ofNat B.slots.size))] [])) := entry rfl
  have c2 : Steps p.tables e below (s₁.setTop (entryFrame m #[.ref d, .int (Int32.ofNat B.slots.size)] 2)) (s₁.setTop (mkF m 2 #[.val (.ref d), .val (.int (Int32.ofNat B.slots.size))] [.ref d, .int (Int32.ofNat B.slots.size)])) := c1.trans (by
    refine XS.iloadN X0.here hexec rfl (hb hbytes d0) rfl ?_
    refine XS.aloadN X0.here hexec rfl (hb hbytes d1) rfl rfl ?_
    exact Steps.refl _)
  have c3 : Steps p.tables e below (s₁.setTop (entryFrame m #[.ref d, .int (Int32.ofNat B.slots.size)] 2)) (s₁.setTop (mkF m 8 #[.val (.ref d), .val (.int (Int32.ofNat B.slots.size))] [.int (lo8 (ushr (Int32.ofNat B.slots.size - Int32.ofNat B.slots.size) 31))])) := c2.trans (by
    refine X0.alen hexec hB0 rfl rfl (hb hbytes d2) ?_
    refine XS.isub X0.here hexec rfl (hb hbytes d3) rfl ?_
    refine bipushV X0.here hexec rfl 31 (hb hbytes d4) (by decide) ?_
    refine iushr X0.here hexec rfl (hb hbytes d6) rfl ?_
    refine i2b X0.here hexec rfl (hb hbytes d7) rfl ?_
    exact Steps.refl _)
  have e0 : lo8 (ushr (Int32.ofNat B.slots.size - Int32.ofNat B.slots.size) 31) = 0 := by rw [Int32.sub_self]; decide
  rw [e0] at c3
  exact ⟨s₁, some (.int 0), _, _, _, X0, rfl, rfl, rfl, (fun h => by cases h), ⟨rfl, hh0⟩, fun fs hl => c3.trans (X0.ireturnOut hexec hret rfl (Or.inr (Or.inr (Or.inl rfl))) (hb hbytes d8) hl)⟩
end CodL
/-- the String at a is Latin-1 over a new byte[] (the heap's one new cell): the low bytes of the len chars of A from o on; every cell but a is kept -/
def Got (a : Addr) (D : Cell) (fV fC : Field) (A : Cell) (o len : Nat) (r : Option Value) (s u : State) : Prop := r = none ∧ ∃ D' V : Cell, Blank "java/lang/String" a D' u ∧ Same D D' [fV.slot, fC.slot] ∧ D'.slots[fV.slot]? = some (.ref s.heap.size) ∧ D'.slots[fC.slot]? = some (.int 0) ∧ Arr .byte s.heap.size V u ∧ V.vm = .none ∧ u.vm.findClass "[B" = some V.cls ∧ V.slots.size = len ∧ (∀ j, j < len → V.slots[j]? = some (.int (lo8 (cv A (o + j))))) ∧ (∀ (y : Addr) (c : Cell), y ≠ a → s.heap[y]? = some c → u.heap[y]? = some c) ∧ u.heap.size = s.heap.size + 1
theorem Got.mv {a : Addr} {D A : Cell} {fV fC : Field} {o len : Nat} : ∀ r (U U' V V' : State), U'.heap = U.heap → V.vm.Alike V'.vm → V'.heap = V.heap → Got a D fV fC A o len r U V → Got a D fV fC A o len r U' V' :=
  fun r U U' V V' h1 hal h2 ⟨e0, D', X, a1, a2, a3, a4, a5, a6, a7, a8, a9, a10, a11⟩ => ⟨e0, D', X, a1.mv hal h2, a2, by rw [h1]; exact a3, a4, by rw [h1]; exact a5.mv hal h2, a6, by rw [hal.findClass]; exact a7, a8, a9, by rw [h1, h2]; exact a10, by rw [h1, h2]; exact a11⟩
namespace New4
def yN : MethodName := ⟨"java/lang/String", "<init>", "([CIILjava/lang/Void;)V"⟩
abbrev yB : ByteArray := jdk_42_method_149_code
theorem d0 : decode yB 0 = .ok (.aload_n 0, 1) := by decide +kernel
theorem d1 : decode yB 1 = .ok (.invokespecial 1, 3) := by decide +kernel
theorem d4 : decode yB 4 = .ok (.iload_n 3, 1) := by decide +kernel
theorem d5 : decode yB 5 = .ok (.ifCond (.ne) 22, 3) := by decide +kernel
theorem d27 : decode yB 27 = .ok (.getstatic 38, 3) := by decide +kernel
theorem d30 : decode yB 30 = .ok (.ifCond (.eq) 28, 3) := by decide +kernel
theorem d33 : decode yB 33 = .ok (.aload_n 1, 1) := by decide +kernel
theorem d34 : decode yB 34 = .ok (.iload_n 2, 1) := by decide +kernel
theorem d35 : decode yB 35 = .ok (.iload_n 3, 1) := by decide +kernel
theorem d36 : decode yB 36 = .ok (.invokestatic 177, 3) := by decide +kernel
theorem d39 : decode yB 39 = .ok (.astore 5, 2) := by decide +kernel
theorem d41 : decode yB 41 = .ok (.aload_n 0, 1) := by decide +kernel
theorem d42 : decode yB 42 = .ok (.aload 5, 2) := by decide +kernel
theorem d44 : decode yB 44 = .ok (.iload_n 3, 1) := by decide +kernel
theorem d45 : decode yB 45 = .ok (.invokestatic 47, 3) := by decide +kernel
theorem d48 : decode yB 48 = .ok (.putfield 15, 3) := by decide +kernel
theorem d51 : decode yB 51 = .ok (.aload_n 0, 1) := by decide +kernel
theorem d52 : decode yB 52 = .ok (.aload 5, 2) := by decide +kernel
theorem d54 : decode yB 54 = .ok (.putfield 9, 3) := by decide +kernel
theorem d57 : decode yB 57 = .ok (.return_, 1) := by decide +kernel
def site : List Cond := [.fieldLink "java/lang/String" 38 "java/lang/String" "COMPACT_STRINGS" "Z", Cmp3.tab, CodL.tab, .laysFinal "java/lang/String" "java/lang/String" "value" "[B", .fieldLink "java/lang/String" 9 "java/lang/String" "value" "[B", .laysFinal "java/lang/String" "java/lang/String" "coder" "B", .fieldLink "java/lang/String" 15 "java/lang/String" "coder" "B"] ++ objW "java/lang/String" 1 ++ staticW "java/lang/String" 177 Cmp3.yN ++ staticW "java/lang/String" 47 CodL.yN
def tab : Cond := tabOf yN yB 6 none site
def P (a : Addr) (D : Cell) (fV fC : Field) (b : Addr) (A : Cell) (z : Int32) (o len : Nat) (args : Array Value) (s : State) : Prop := args = #[.ref a, .ref b, .int (Int32.ofNat o), .int (Int32.ofNat len), .null] ∧ Blank "java/lang/String" a D s ∧ Found "java/lang/String" "value" "[B" fV s ∧ Found "java/lang/String" "coder" "B" fC s ∧ Ch b A s ∧ StaticIs s "java/lang/String" "COMPACT_STRINGS" "Z" (.int z) ∧ ¬ z = 0 ∧ 0 < len ∧ o + len ≤ A.slots.size ∧ len ≤ 536870912 ∧ ∀ i, i < len → ¬ 255 < cv A (o + i)
def E (a : Addr) (D : Cell) (fV fC : Field) (A : Cell) (o len : Nat) (r : Option Value) (s u : State) : Prop := Got a D fV fC A o len r s u
/-- len > 0, no char of the range above 255: a Latin-1 String of their low bytes -/
theorem law (l : Launch) (a : Addr) (D : Cell) (fV fC : Field) (b : Addr) (A : Cell) (z : Int32) (o len : Nat) : Law l yN 5 4 2 35 yB 6 none site (P a D fV fC b A z o len) (E a D fV fC A o len) [⟨a, fC.slot⟩, ⟨a, fV.slot⟩] 1 len := by
  refine Law.of_walk (plainFor_of_name (by decide +kernel)) (by decide +kernel) (by decide +kernel) (by decide) (fun _ _ h => by rw [h.1]; rfl) (fun _ U U' hal hh h => ⟨h.1, h.2.1.mv hal hh, h.2.2.1.al hal, h.2.2.2.1.al hal, h.2.2.2.2.1.mv hal hh, h.2.2.2.2.2.1.there hal hh, h.2.2.2.2.2.2⟩) (fun r U U' V V' h1 hal h2 h => Got.mv r U U' V V' h1 hal h2 h) ?_
  intro p e s m args below meth c s₁ X0 hexec hbytes hml hret hlk hnm hown hh0 W hP
  obtain ⟨rfl, hB, f1, f2, hA, s1, hz, l0, l1, l2, hp⟩ := hP
  have a31 := hA.1.2.2.2
  have c1 : Steps p.tables e below (s₁.setTop (entryFrame m #[.ref a, .ref b, .int (Int32.ofNat o), .int (Int32.ofNat len), .null] 6)) (s₁.setTop (mkF m 0 #[.val (.ref a), .val (.ref b), .val (.int (Int32.ofNat o)), .val (.int (Int32.ofNat len)), .val .null, .unset] [])) := entry rfl
  have c2 : Steps p.tables e below (s₁.setTop (entryFrame m #[.ref a, .ref b, .int (Int32.ofNat o), .int (Int32.ofNat len), .null] 6)) (s₁.setTop (mkF m 1 #[.val (.ref a), .val (.ref b), .val (.int (Int32.ofNat o)), .val (.int (Int32.ofNat len)), .val .null, .unset] [.ref a])) := c1.trans (by
    refine XS.aloadN X0.here hexec rfl (hb hbytes d0) rfl rfl ?_
    exact Steps.refl _)
  obtain ⟨T3, X3, q3, st3⟩ := X0.oinit hexec hown (wks W (objW "java/lang/String" 1)) (g := (mkF m 1 #[.val (.ref a), .val (.ref b), .val (.int (Int32.ofNat o)), .val (.int (Int32.ofNat len)), .val .null, .unset] [.ref a])) rfl (by rw [hml]; rfl) (rest := []) rfl (hb hbytes d1) (W := 0) (by show 2 * 0 + 0 ≤ _; decide) (Nat.le_of_ble_eq_true rfl) (Nat.le_of_ble_eq_true rfl)
  have hh3 := q3.trans hh0
  have c4 : Steps p.tables e below (s₁.setTop (entryFrame m #[.ref a, .ref b, .int (Int32.ofNat o), .int (Int32.ofNat len), .null] 6)) (T3.setTop (mkF m 27 #[.val (.ref a), .val (.ref b), .val (.int (Int32.ofNat o)), .val (.int (Int32.ofNat len)), .val .null, .unset] [])) := (c2.trans (st3 _ (Steps.refl _))).trans (by
    refine XS.iloadN X3.here hexec rfl (hb hbytes d4) rfl ?_
    refine XS.ifYes X3.here hexec rfl (pc0 := 5) rfl (hb hbytes d5) rfl (i0_ne_t (nz32 (by omega) l0)) (by decide) rfl ?_
    exact Steps.refl _)
  obtain ⟨T5, X5, q5, st5⟩ := X3.sget hexec hown (wk W (.fieldLink "java/lang/String" 38 "java/lang/String" "COMPACT_STRINGS" "Z")) s1 (fun _ _ h => by rw [hh3]; exact h) (g := (mkF m 27 #[.val (.ref a), .val (.ref b), .val (.int (Int32.ofNat o)), .val (.int (Int32.ofNat len)), .val .null, .unset] [])) rfl (hb hbytes d27)
  have hh5 := q5.trans hh3
  have c6 : Steps p.tables e below (s₁.setTop (entryFrame m #[.ref a, .ref b, .int (Int32.ofNat o), .int (Int32.ofNat len), .null] 6)) (T5.setTop (mkF m 30 #[.val (.ref a), .val (.ref b), .val (.int (Int32.ofNat o)), .val (.int (Int32.ofNat len)), .val .null, .unset] [.int z])) := c4.trans (st5 _ (Steps.refl _))
  have c7 : Steps p.tables e below (s₁.setTop (entryFrame m #[.ref a, .ref b, .int (Int32.ofNat o), .int (Int32.ofNat len), .null] 6)) (T5.setTop (mkF m 36 #[.val (.ref a), .val (.ref b), .val (.int (Int32.ofNat o)), .val (.int (Int32.ofNat len)), .val .null, .unset] [.int (Int32.ofNat len), .int (Int32.ofNat o), .ref b])) := c6.trans (by
    refine XS.ifNo X5.here hexec rfl (hb hbytes d30) rfl (i0_eq_f hz) ?_
    refine XS.aloadN X5.here hexec rfl (hb hbytes d33) rfl rfl ?_
    refine XS.iloadN X5.here hexec rfl (hb hbytes d34) rfl ?_
    refine XS.iloadN X5.here hexec rfl (hb hbytes d35) rfl ?_
    exact Steps.refl _)
  obtain ⟨v8, T8, X8, E8, g8⟩ := X5.callS hexec (Cmp3.law l b A o len) hown (wks W (staticW "java/lang/String" 177 Cmp3.yN)) (wk W Cmp3.tab) (W := 0) (Nat.le_of_ble_eq_true rfl) (Nat.le_of_ble_eq_true rfl) (Nat.le_refl _) (by show 0 + len ≤ len; omega) (g := (mkF m 36 #[.val (.ref a), .val (.ref b), .val (.int (Int32.ofNat o)), .val (.int (Int32.ofNat len)), .val .null, .unset] [.int (Int32.ofNat len), .int (Int32.ofNat o), .ref b])) rfl (by rw [hml]; rfl) c7 (argsL := [.ref b, .int (Int32.ofNat o), .int (Int32.ofNat len)]) (rest := []) rfl rfl (by show 2 * 0 + 0 ≤ _; decide) (hb hbytes d36) (⟨rfl, hA.mv X5.warmed.alike hh5, l1, l2, hp⟩)
  obtain ⟨e8, z8⟩ := E8
  obtain ⟨rfl, N, n1, n2, n3, n4, n5, n6⟩ := NewArr.mv _ T5 s _ _ hh5.symm (Vm.Alike.refl _) rfl e8
  rw [hh5] at z8
  have hB1 := hB.keep X8.warmed.alike (n6 _ _ hB.1)
  have hne : s.heap.size ≠ a := (Nat.ne_of_lt (Array.getElem?_eq_some_iff.mp hB.1).1).symm
  have c9 : Steps p.tables e below (s₁.setTop (entryFrame m #[.ref a, .ref b, .int (Int32.ofNat o), .int (Int32.ofNat len), .null] 6)) (T8.setTop (mkF m 39 #[.val (.ref a), .val (.ref b), .val (.int (Int32.ofNat o)), .val (.int (Int32.ofNat len)), .val .null, .unset] [.ref s.heap.size])) := g8
  have c10 : Steps p.tables e below (s₁.setTop (entryFrame m #[.ref a, .ref b, .int (Int32.ofNat o), .int (Int32.ofNat len), .null] 6)) (T8.setTop (mkF m 45 #[.val (.ref a), .val (.ref b), .val (.int (Int32.ofNat o)), .val (.int (Int32.ofNat len)), .val .null, .val (.ref s.heap.size)] [.int (Int32.ofNat N.slots.size), .ref s.heap.size, .ref a])) := by
    have hc : Steps p.tables e below (s₁.setTop (entryFrame m #[.ref a, .ref b, .int (Int32.ofNat o), .int (Int32.ofNat len), .null] 6)) (T8.setTop (mkF m 45 #[.val (.ref a), .val (.ref b), .val (.int (Int32.ofNat o)), .val (.int (Int32.ofNat len)), .val .null, .val (.ref s.heap.size)] [.int (Int32.ofNat len), .ref s.heap.size, .ref a])) := c9.trans (by
      refine XS.astore X8.here hexec rfl (hb hbytes d39) rfl rfl rfl ?_
      refine XS.aloadN X8.here hexec rfl (hb hbytes d41) rfl rfl ?_
      refine XS.aload X8.here hexec rfl (hb hbytes d42) rfl rfl ?_
      refine XS.iloadN X8.here hexec rfl (hb hbytes d44) rfl ?_
      exact Steps.refl _)
    rw [n4]; exact hc
  obtain ⟨v11, T11, X11, E11, g11⟩ := X8.callS hexec (CodL.law l s.heap.size N) hown (wks W (staticW "java/lang/String" 47 CodL.yN)) (wk W CodL.tab) (W := 1) (Nat.le_of_ble_eq_true rfl) (Nat.le_of_ble_eq_true rfl) (Nat.le_refl _) (by show 0 + len + 0 ≤ len; omega) (g := (mkF m 45 #[.val (.ref a), .val (.ref b), .val (.int (Int32.ofNat o)), .val (.int (Int32.ofNat len)), .val .null, .val (.ref s.heap.size)] [.int (Int32.ofNat N.slots.size), .ref s.heap.size, .ref a])) rfl (by rw [hml]; rfl) c10 (argsL := [.ref s.heap.size, .int (Int32.ofNat N.slots.size)]) (rest := [.ref a]) rfl rfl (by show 2 * 0 + (1 + 0) ≤ _; decide) (hb hbytes d45) (⟨rfl, n1⟩)
  obtain ⟨rfl, q11⟩ := E11
  have hB11 := hB1.mv (X8.warmed.alike.symm.trans X11.warmed.alike) q11
  have c12 : Steps p.tables e below (s₁.setTop (entryFrame m #[.ref a, .ref b, .int (Int32.ofNat o), .int (Int32.ofNat len), .null] 6)) (T11.setTop (mkF m 48 #[.val (.ref a), .val (.ref b), .val (.int (Int32.ofNat o)), .val (.int (Int32.ofNat len)), .val .null, .val (.ref s.heap.size)] [.int 0, .ref a])) := g11
  obtain ⟨T13, X13, p13, bl13, sl13, st13⟩ := X11.finit hexec hown (wk W (.fieldLink "java/lang/String" 15 "java/lang/String" "coder" "B")) (Or.inr ⟨_, (wk W (.laysFinal "java/lang/String" "java/lang/String" "coder" "B"))⟩) (Or.inl ⟨rfl, hnm⟩) f2 (Or.inl rfl) hB11 (t := .byte) (by decide +kernel) rfl (g := (mkF m 48 #[.val (.ref a), .val (.ref b), .val (.int (Int32.ofNat o)), .val (.int (Int32.ofNat len)), .val .null, .val (.ref s.heap.size)] [.int 0, .ref a])) rfl (rest := []) rfl (hb hbytes d48)
  have c14 : Steps p.tables e below (s₁.setTop (entryFrame m #[.ref a, .ref b, .int (Int32.ofNat o), .int (Int32.ofNat len), .null] 6)) (T13.setTop (mkF m 54 #[.val (.ref a), .val (.ref b), .val (.int (Int32.ofNat o)), .val (.int (Int32.ofNat len)), .val .null, .val (.ref s.heap.size)] [.ref s.heap.size, .ref a])) := (c12.trans (st13 _ (Steps.refl _))).trans (by
    refine XS.aloadN X13.here hexec rfl (hb hbytes d51) rfl rfl ?_
    refine XS.aload X13.here hexec rfl (hb hbytes d52) rfl rfl ?_
    exact Steps.refl _)
  obtain ⟨T15, X15, p15, bl15, sl15, st15⟩ := X13.finit hexec hown (wk W (.fieldLink "java/lang/String" 9 "java/lang/String" "value" "[B")) (Or.inr ⟨_, (wk W (.laysFinal "java/lang/String" "java/lang/String" "value" "[B"))⟩) (Or.inl ⟨rfl, hnm⟩) f1 (Or.inl rfl) bl13 (t := (.array .byte)) (by decide +kernel) rfl (g := (mkF m 54 #[.val (.ref a), .val (.ref b), .val (.int (Int32.ofNat o)), .val (.int (Int32.ofNat len)), .val .null, .val (.ref s.heap.size)] [.ref s.heap.size, .ref a])) rfl (rest := []) rfl (hb hbytes d54)
  have c16 : Steps p.tables e below (s₁.setTop (entryFrame m #[.ref a, .ref b, .int (Int32.ofNat o), .int (Int32.ofNat len), .null] 6)) (T15.setTop (mkF m 57 #[.val (.ref a), .val (.ref b), .val (.int (Int32.ofNat o)), .val (.int (Int32.ofNat len)), .val .null, .val (.ref s.heap.size)] [])) := c14.trans (st15 _ (Steps.refl _))
  have ap := apart (Or.inr ⟨_, (wk W (.laysFinal "java/lang/String" "java/lang/String" "value" "[B"))⟩) (Or.inr ⟨_, (wk W (.laysFinal "java/lang/String" "java/lang/String" "coder" "B"))⟩) f1 f2 (t₁ := .array .byte) (t₂ := .byte) (by decide +kernel) (by decide +kernel) (by decide)
  have al := X8.warmed.alike.symm.trans X15.warmed.alike
  have n7 : T11.heap[s.heap.size]? = some N := by rw [q11]; exact n1.1
  exact ⟨T15, none, _, _, _, X15, by simp, rfl, by omega, (fun _ => rfl), ⟨rfl, _, N, bl15, ((Same.refl D _).set _ (by simp)).set _ (by simp), sl15, (Cell.slots_setSlot_ne _ ap).trans sl13, n1.keep al (p15.other hne (p13.other hne n7)), n2, by rw [al.findClass]; exact n3, n4, n5, fun y c h1 h2 => p15.other h1 (p13.other h1 (by rw [q11]; exact n6 y c h2)), by rw [p15.2.2, p13.2.2, q11]; exact z8⟩, fun fs hl => c16.trans (X15.returnOut hexec hret (hb hbytes d57) hl)⟩
end New4
namespace New1
def yN : MethodName := ⟨"java/lang/String", "<init>", "([C)V"⟩
abbrev yB : ByteArray := jdk_42_method_3_code
theorem d0 : decode yB 0 = .ok (.aload_n 0, 1) := by decide +kernel
theorem d1 : decode yB 1 = .ok (.aload_n 1, 1) := by decide +kernel
theorem d2 : decode yB 2 = .ok (.iconst 0, 1) := by decide +kernel
theorem d3 : decode yB 3 = .ok (.aload_n 1, 1) := by decide +kernel
theorem d4 : decode yB 4 = .ok (.arraylength, 1) := by decide +kernel
theorem d5 : decode yB 5 = .ok (.aconst_null, 1) := by decide +kernel
theorem d6 : decode yB 6 = .ok (.invokespecial 27, 3) := by decide +kernel
theorem d9 : decode yB 9 = .ok (.return_, 1) := by decide +kernel
def site : List Cond := [New4.tab] ++ initW "java/lang/String" 27 New4.yN
def tab : Cond := tabOf yN yB 2 none site
def P (a : Addr) (D : Cell) (fV fC : Field) (b : Addr) (A : Cell) (z : Int32) (args : Array Value) (s : State) : Prop := args = #[.ref a, .ref b] ∧ Blank "java/lang/String" a D s ∧ Found "java/lang/String" "value" "[B" fV s ∧ Found "java/lang/String" "coder" "B" fC s ∧ Ch b A s ∧ StaticIs s "java/lang/String" "COMPACT_STRINGS" "Z" (.int z) ∧ ¬ z = 0 ∧ 0 < A.slots.size ∧ A.slots.size ≤ 536870912 ∧ ∀ i, i < A.slots.size → ¬ 255 < cv A i
def E (a : Addr) (D : Cell) (fV fC : Field) (A : Cell) (r : Option Value) (s u : State) : Prop := Got a D fV fC A 0 A.slots.size r s u
/-- new String(chars), not empty, no char above 255: a Latin-1 String of their low bytes -/
theorem law (l : Launch) (a : Addr) (D : Cell) (fV fC : Field) (b : Addr) (A : Cell) (z : Int32) : Law l yN 2 1 3 52 yB 2 none site (P a D fV fC b A z) (E a D fV fC A) [⟨a, fC.slot⟩, ⟨a, fV.slot⟩] 1 A.slots.size := by
  refine Law.of_walk (plainFor_of_name (by decide +kernel)) (by decide +kernel) (by decide +kernel) (by decide) (fun _ _ h => by rw [h.1]; rfl) (fun _ U U' hal hh h => ⟨h.1, h.2.1.mv hal hh, h.2.2.1.al hal, h.2.2.2.1.al hal, h.2.2.2.2.1.mv hal hh, h.2.2.2.2.2.1.there hal hh, h.2.2.2.2.2.2⟩) (fun r U U' V V' h1 hal h2 h => Got.mv r U U' V V' h1 hal h2 h) ?_
  intro p e s m args below meth c s₁ X0 hexec hbytes hml hret hlk hnm hown hh0 W hP
  obtain ⟨rfl, hB, f1, f2, hA, s1, hz, l0, l2, hp⟩ := hP
  have c1 : Steps p.tables e below (s₁.setTop (entryFrame m #[.ref a, .ref b] 2)) (s₁.setTop (mkF m 0 #[.val (.ref a), .val (.ref b)] [])) := entry rfl
  have c2 : Steps p.tables e below (s₁.setTop (entryFrame m #[.ref a, .ref b] 2)) (s₁.setTop (mkF m 6 #[.val (.ref a), .val (.ref b)] [.null, .int (Int32.ofNat A.slots.size), .int 0, .ref b, .ref a])) := c1.trans (by
    refine XS.aloadN X0.here hexec rfl (hb hbytes d0) rfl rfl ?_
    refine XS.aloadN X0.here hexec rfl (hb hbytes d1) rfl rfl ?_
    refine iconstV X0.here hexec rfl 0 (hb hbytes d2) (by decide) ?_
    refine XS.aloadN X0.here hexec rfl (hb hbytes d3) rfl rfl ?_
    refine X0.alen hexec (hA.1.mv X0.warmed.alike hh0) rfl rfl (hb hbytes d4) ?_
    refine XS.aconstNull X0.here hexec rfl (hb hbytes d5) ?_
    exact Steps.refl _)
  obtain ⟨v3, T3, X3, E3, g3⟩ := X0.callN hexec (New4.law l a D fV fC b A z 0 A.slots.size) rfl hown (wks W (initW "java/lang/String" 27 New4.yN)) (W New4.tab (by simp only [site, List.mem_cons, List.mem_append, true_or, or_true])) (W := 0) (Nat.le_of_ble_eq_true rfl) (Nat.le_of_ble_eq_true rfl) (Nat.le_refl _) (by show 0 + A.slots.size ≤ A.slots.size; omega) (g := (mkF m 6 #[.val (.ref a), .val (.ref b)] [.null, .int (Int32.ofNat A.slots.size), .int (Int32.ofNat 0), .ref b, .ref a])) rfl (by rw [hml]; rfl) c2 (argsL := [.ref b, .int (Int32.ofNat 0), .int (Int32.ofNat A.slots.size), .null]) (rest := []) rfl rfl (by show 2 * 0 + 0 ≤ _; decide) (hb hbytes d6) (⟨rfl, hB.mv X0.warmed.alike hh0, f1.al X0.warmed.alike, f2.al X0.warmed.alike, hA.mv X0.warmed.alike hh0, s1.there X0.warmed.alike hh0, hz, l0, by omega, l2, fun i hi => by rw [Nat.zero_add]; exact hp i hi⟩)
  have e0 := Got.mv _ s₁ s _ _ hh0.symm (Vm.Alike.refl _) rfl E3
  obtain rfl := e0.1
  have c4 : Steps p.tables e below (s₁.setTop (entryFrame m #[.ref a, .ref b] 2)) (T3.setTop (mkF m 9 #[.val (.ref a), .val (.ref b)] [])) := g3
  exact ⟨T3, none, _, _, _, X3, by simp, rfl, by omega, (fun _ => rfl), e0, fun fs hl => c4.trans (X3.returnOut hexec hret (hb hbytes d9) hl)⟩
theorem pays {l : Launch} {R : Room} {p : Program} {e : Env} {below : List Frame} {s : State} {sargs : Array Value} {len W : Nat} (a : Addr) (D : Cell) (fV fC : Field) (b : Addr) (A : Cell) (z : Int32) (htab : tab.before sargs s = true) (hfr : 4 ≤ R.frames) (hlo : W + 65 ≤ R.locals) :
    Back l R p e below s sargs yN len W (fun A₁ a₁ => A₁.cells + 1 ≤ R.cells ∧ A₁.slots + A.slots.size ≤ R.slots ∧ P a D fV fC b A z a₁ A₁.U) (fun A₁ _ v₁ B₁ => E a D fV fC A v₁ A₁.U B₁.U ∧ B₁.locs = A₁.locs ++ [⟨a, fC.slot⟩, ⟨a, fV.slot⟩] ∧ B₁.cells = A₁.cells + 1 ∧ B₁.slots = A₁.slots + A.slots.size) :=
  (law l a D fV fC b A z).pays htab hfr (by omega)
end New1
/-- the byte, read back as charAt reads it, is the char -/
theorem lo8_mask {x : Int32} (h0 : ¬ x < 0) (h1 : ¬ 255 < x) : lo8 x &&& 255 = x := by
  have t : ∀ k : Fin 256, lo8 (Int32.ofNat k.val) &&& 255 = Int32.ofNat k.val := by decide +kernel
  rw [Int32.lt_iff_toInt_lt] at h0 h1
  have e0 : (0 : Int32).toInt = 0 := rfl
  have e1 : (255 : Int32).toInt = 255 := rfl
  obtain ⟨k, hk⟩ : ∃ k : Nat, x.toInt = k := ⟨x.toInt.toNat, by omega⟩
  have hx : x = Int32.ofNat k := Int32.toInt_inj.mp (by rw [hk, Int32.toInt_ofNat_small (by omega)])
  rw [hx]
  exact t ⟨k, by omega⟩
end StrChars
namespace StrChars.Road
open Jvm Sem ClassFile Op Lib Jvm.Stand Jvm.Free Jvm.Free.XT
open Jvm.Lib.Cold (StaticIs)
abbrev ST : String := "java/lang/String"
/-- every table word that New1's law asks, flat -/
abbrev words : List Jvm.Cond := [.code New1.yN New1.yB 2 none, .initialized ST, .methodLink ST 27 New4.yN, .instanceMethod New4.yN,
  .code New4.yN New4.yB 6 none, .fieldLink ST 38 ST "COMPACT_STRINGS" "Z", .laysFinal ST ST "value" "[B", .fieldLink ST 9 ST "value" "[B", .laysFinal ST ST "coder" "B", .fieldLink ST 15 ST "coder" "B",
  .methodLink ST 1 Lib.objectInit, .instanceMethod Lib.objectInit, .code Lib.objectInit ⟨#[0xb1]⟩ 1 none, .methodLink ST 177 Cmp3.yN, .static Cmp3.yN, .methodLink ST 47 CodL.yN, .static CodL.yN,
  .code Cmp3.yN Cmp3.yB 6 (some (.array .byte)), .initialized U16, .arrayClass .byte, .methodLink U16 115 Cmp5.yN, .static Cmp5.yN, .code Cmp5.yN Cmp5.yB 7 (some .int), .code CodL.yN CodL.yB 2 (some .byte)]
theorem tab_of {a : Array Value} {s : State} (h : ∀ w ∈ words, w.before a s = true) : New1.tab.before a s = true := by
  have h5 : Cmp5.tab.before a s = true := unparts (wk h (.code Cmp5.yN Cmp5.yB 7 (some .int))) (wks h (.initialized Cmp5.yN.cls :: Cmp5.site))
  have hc : CodL.tab.before a s = true := unparts (wk h (.code CodL.yN CodL.yB 2 (some .byte))) (wks h (.initialized CodL.yN.cls :: CodL.site))
  have q5 : ∀ w ∈ Cmp5.tab :: words, w.before a s = true := fun w hw => (List.mem_cons.mp hw).elim (fun e => e ▸ h5) (h w)
  have h3 : Cmp3.tab.before a s = true := unparts (wk q5 (.code Cmp3.yN Cmp3.yB 6 (some (.array .byte)))) (wks q5 (.initialized Cmp3.yN.cls :: Cmp3.site))
  have q3 : ∀ w ∈ Cmp3.tab :: CodL.tab :: words, w.before a s = true := fun w hw => (List.mem_cons.mp hw).elim (fun e => e ▸ h3) fun hw => (List.mem_cons.mp hw).elim (fun e => e ▸ hc) (h w)
  have h4 : New4.tab.before a s = true := unparts (wk q3 (.code New4.yN New4.yB 6 none)) (wks q3 (.initialized New4.yN.cls :: New4.site))
  have q4 : ∀ w ∈ New4.tab :: words, w.before a s = true := fun w hw => (List.mem_cons.mp hw).elim (fun e => e ▸ h4) (h w)
  exact unparts (wk q4 (.code New1.yN New1.yB 2 none)) (wks q4 (.initialized New1.yN.cls :: New1.site))
/-- the words ride from the start Z to the walk's own state -/
theorem moved {Z s : State} {a0 args : Array Value} (hZ : Z.Warmed39 s.vm) (hw : ∀ d ∈ words, d.before a0 Z = true) : ∀ d ∈ words, d.before args s = true := fun d hd => by
  have q := hw d hd
  have t : ∀ d ∈ words, d = .arrayClass .byte ∨ (d.onTables && d.keepsFace) = true := by decide +kernel
  rcases t d hd with rfl | t
  · exact RoadKit.mvA hZ q
  · exact RoadKit.mv hZ q t
/-- WHAT COMES BACK, over the tables of the start Z: h the heap at the call, h' behind it -/
def Q (Z : State) (x : Addr) (A : Cell) (h : Heap) (v : Option Value) (h' : Heap) (L : List Loc) : Prop := v = none ∧ (∀ y ∈ L, y.base = x) ∧ RoadKit.Keep h h' [x] ∧ h'.size = h.size + 1 ∧ RoadKit.Exa Z h' x ST ∧ RoadKit.Fld Z h' x ST "value" "[B" (.ref h.size) ∧ RoadKit.Fld Z h' x ST "coder" "B" (.int 0) ∧
  (∃ V : Cell, RoadKit.Arr Z h' h.size V .byte ∧ V.vm = .none ∧ Z.vm.findClass "[B" = some V.cls ∧ V.slots.size = A.slots.size ∧ ∀ j, j < A.slots.size → V.slots[j]? = some (.int (lo8 (cv A j)))) ∧
  ∀ (O n d : String) (w : Value), RoadKit.Fld Z h x O n d w → RoadKit.slotOf Z O n d ≠ RoadKit.slotOf Z ST "value" "[B" → RoadKit.slotOf Z O n d ≠ RoadKit.slotOf Z ST "coder" "B" → RoadKit.Fld Z h' x O n d w
/-- **new String(chars) AT A CALL, IN THE ROAD'S FORM**: for specialBack behind newO: x the fresh String, b the char[] with the cell A -/
theorem back {p : Program} {l : Launch} {e : Env} {R : Room} {s : State} {args : Array Value} {below : List Frame} {len W : Nat} {Z : State} {a0 : Array Value} {h : Heap} (hZ : Z.Warmed39 s.vm) (hw : ∀ d ∈ words, d.before a0 Z = true) {kI : Nat} (wi : (Jvm.Cond.instantiable ST kI).before a0 Z = true)
    {x b : Addr} {A : Cell} {z : Int32} {v0 c0 : Value} (E : RoadKit.Exa Z h x ST) (V : RoadKit.Fld Z h x ST "value" "[B" v0) (C : RoadKit.Fld Z h x ST "coder" "B" c0) (K : RoadKit.Arr Z h b A .char) (hty : Typed .char A) (S : RoadKit.Sta Z h ST "COMPACT_STRINGS" "Z" (.int z)) (hz : ¬ z = 0)
    (l0 : 0 < A.slots.size) (l2 : A.slots.size ≤ 536870912) (hp : ∀ i, i < A.slots.size → ¬ 255 < cv A i) (hfr : 4 ≤ R.frames) (hlo : W + 65 ≤ R.locals) :
    Back l R p e below s args New1.yN len W (fun P a => a = #[.ref x, .ref b] ∧ P.U.heap = h ∧ P.cells + 1 ≤ R.cells ∧ P.slots + A.slots.size ≤ R.slots)
      (fun P _ v B => ∃ L, Q Z x A h v B.U.heap L ∧ B.locs = P.locs ++ L ∧ B.cells = P.cells + 1 ∧ B.slots = P.slots + A.slots.size) := by
  intro m meth c P g ig mk a X hg hsize hdg hW hn hp'
  obtain ⟨rfl, rfl, r1, r2⟩ := hp'
  have al : Z.vm.Alike P.U.vm := hZ.alike.trans X.warmed.alike
  obtain ⟨D, cfV, kV, iV, fV, hD, gV, stV, knV, obV, asV, slV⟩ := id V
  obtain ⟨D', cfC, kC, iC, fC, hD', gC, stC, -, -, asC, slC⟩ := id C
  cases hD.symm.trans hD'
  obtain ⟨D2, kD, e1, e2, e3, e4, e5⟩ := id E
  cases hD.symm.trans e1
  obtain ⟨c2, k2, i1, i2, i3, -⟩ := Cond.instantiable_spec wi
  cases e2.symm.trans i1
  cases e3.symm.trans i2
  obtain ⟨kU, u1, u2⟩ := al.2.2 _ _ e3
  have hB : Blank ST x D P.U := ⟨hD, ⟨knV, fun q hq => by rw [hq] at obV; cases obV⟩, by rw [al.findClass]; exact e2, kU, u1, by rw [u2]; exact i3, by rw [u2]; exact e5 i3⟩
  have F1 : Found ST "value" "[B" fV P.U := ⟨SBG.found_only al ⟨cfV, kV, iV, gV⟩, stV⟩
  have F2 : Found ST "coder" "B" fC P.U := ⟨SBG.found_only al ⟨cfC, kC, iC, gC⟩, stC⟩
  have hA : Ch b A P.U := ⟨⟨K.1, State.isArrayOf_alike al K.2.1, K.2.2, by omega⟩, hty⟩
  have hS : StaticIs P.U ST "COMPACT_STRINGS" "Z" (.int z) := by
    obtain ⟨cfS, iS, kS, fS, st, cS, t1, t2, t3, t4, t5, t6, t7⟩ := S
    exact StaticIs.there (s := { Z with heap := P.U.heap }) ⟨cfS, iS, kS, fS, st, cS, t1, t2, t3, t4, t5, (fun q => by rw [q] at t6; cases t6), t7⟩ al rfl
  obtain ⟨v, B, X', ⟨⟨hv, E', V', q1, q2, q3, q4, q5, q6, q7, q8, q9, q10, q11⟩, hl, hc, hs⟩, st⟩ := New1.pays x D fV fC b A z (tab_of (moved hZ hw)) hfr hlo m meth c P g ig mk _ X hg hsize hdg hW hn ⟨r1, r2, rfl, hB, F1, F2, hA, hS, hz, l0, l2, hp⟩
  have al' : Z.vm.Alike B.U.vm := hZ.alike.trans X'.warmed.alike
  have hsz : E'.slots.size = D.slots.size := by
    obtain ⟨-, -, -, kB, w1, w2, w3⟩ := q1
    obtain ⟨kB', y1, y2⟩ := al'.2.2 _ _ e3
    rw [q2.2.1] at w1
    cases w1.symm.trans y1
    rw [w3, e5 i3, y2]
  refine ⟨v, B, X', ⟨_, ⟨hv, ?_, ⟨by omega, fun y cy hy hn' => q10 y cy (by simpa using hn') hy, fun y cy hy => ?_⟩, q11, ⟨E', _, q1.1, by rw [q2.2.1]; exact e2, by rw [q2.2.1]; exact e3, by rw [q2.1]; exact obV, fun _ => by rw [hsz]; exact e5 i3⟩,
    ⟨E', cfV, kV, iV, fV, q1.1, gV, stV, by rw [q2.1]; exact knV, by rw [q2.1]; exact obV, by rw [q2.2.1]; exact asV, q3⟩, ⟨E', cfC, kC, iC, fC, q1.1, gC, stC, by rw [q2.1]; exact knV, by rw [q2.1]; exact obV, by rw [q2.2.1]; exact asC, q4⟩,
    ⟨V', ⟨q5.1, State.isArrayOf_alike al'.symm q5.2.1, q5.2.2.1⟩, q6, by rw [← al'.findClass]; exact q7, q8, fun j hj => by have := q9 j hj; rwa [Nat.zero_add] at this⟩, fun O n d w F n1 n2 => ?_⟩, hl, hc, hs⟩, st⟩
  · intro y hy
    simp only [List.mem_cons, List.not_mem_nil, or_false] at hy
    rcases hy with rfl | rfl <;> rfl
  · by_cases q : y = x
    · subst q
      cases hD.symm.trans hy
      exact ⟨E', q1.1, q2.2.1, q2.1, hsz⟩
    · exact ⟨cy, q10 y cy q hy, rfl, rfl, rfl⟩
  · obtain ⟨D3, cf, k, i, f, g1, g2, g3, g4, g5, g6, g7⟩ := F
    cases hD.symm.trans g1
    simp only [RoadKit.slotOf, g2, gV, gC, Option.map_some, Option.getD_some] at n1 n2
    exact ⟨E', cf, k, i, f, q1.1, g2, g3, by rw [q2.1]; exact g4, by rw [q2.1]; exact g5, by rw [q2.2.1]; exact g6, by rw [q2.2.2 f.slot (by simp [n1, n2])]; exact g7⟩
end StrChars.Road
namespace StrChars.Road
open Jvm Sem ClassFile Op Lib Jvm.Stand Jvm.Free Jvm.Free.XT
/-- WHAT COMES BACK, the byte[] as a list of values -/
def QA (Z : State) (x : Addr) (zn : Int32) (cs : List Int32) (h : Heap) (v : Option Value) (h' : Heap) (L : List Loc) : Prop := v = none ∧ (∀ y ∈ L, y.base = x) ∧ RoadKit.Keep h h' [x] ∧ h'.size = h.size + 1 ∧ RoadKit.Exa Z h' x ST ∧ RoadKit.Fld Z h' x ST "value" "[B" (.ref h.size) ∧ RoadKit.Fld Z h' x ST "coder" "B" (.int 0) ∧
  (∃ kb, Z.vm.findClass "[B" = some kb ∧ RoadKit.Arv Z h' h.size kb .byte zn (cs.map fun c => .int (lo8 c)) (.int 0)) ∧
  ∀ (O n d : String) (w : Value), RoadKit.Fld Z h x O n d w → RoadKit.slotOf Z O n d ≠ RoadKit.slotOf Z ST "value" "[B" → RoadKit.slotOf Z O n d ≠ RoadKit.slotOf Z ST "coder" "B" → RoadKit.Fld Z h' x O n d w
/-- **new String(chars) AT A CALL, THE ARRAYS AS LISTS**: the char[] at b holds cs, not empty, no char above 255 -/
theorem backArv {p : Program} {l : Launch} {e : Env} {R : Room} {s : State} {args : Array Value} {below : List Frame} {len W : Nat} {Z : State} {a0 : Array Value} {h : Heap} (hZ : Z.Warmed39 s.vm) (hw : ∀ d ∈ words, d.before a0 Z = true) {kI : Nat} (wi : (Jvm.Cond.instantiable ST kI).before a0 Z = true)
    {x b : Addr} {k : ClassId} {zn z : Int32} {cs : List Int32} {dv v0 c0 : Value} (E : RoadKit.Exa Z h x ST) (V : RoadKit.Fld Z h x ST "value" "[B" v0) (C : RoadKit.Fld Z h x ST "coder" "B" c0) (K : RoadKit.Arv Z h b k .char zn (cs.map Value.int) dv) (S : RoadKit.Sta Z h ST "COMPACT_STRINGS" "Z" (.int z)) (hz : ¬ z = 0)
    (hlen : zn.toNatClampNeg = cs.length) (h0 : 0 < cs.length) (hbig : cs.length ≤ 536870912) (hall : ∀ c ∈ cs, ¬ 255 < c) (hfr : 4 ≤ R.frames) (hlo : W + 65 ≤ R.locals) :
    Back l R p e below s args New1.yN len W (fun P a => a = #[.ref x, .ref b] ∧ P.U.heap = h ∧ P.cells + 1 ≤ R.cells ∧ P.slots + cs.length ≤ R.slots)
      (fun P _ v B => ∃ L, QA Z x zn cs h v B.U.heap L ∧ B.locs = P.locs ++ L ∧ B.cells = P.cells + 1 ∧ B.slots = P.slots + cs.length) := by
  obtain ⟨A, K1, K2, K3, K4, K5, K6⟩ := K
  have e : A.slots.size = cs.length := K3.trans hlen
  have hat : ∀ (i : Nat) (hi : i < cs.length), A.slots[i]? = some (.int cs[i]) := fun i hi => by rw [K5 i (by omega)]; simp [List.getD_eq_getElem?_getD, hi]
  have hcv : ∀ (i : Nat) (hi : i < cs.length), cv A i = cs[i] := fun i hi => by unfold cv; rw [hat i hi]
  have hty : Typed .char A := fun i v hv => by
    have hi : i < A.slots.size := (Array.getElem?_eq_some_iff.mp hv).1
    have q := K5 i hi
    rw [hv] at q
    rw [Option.some.inj q]
    exact K6 i hi
  refine Back.mono (back hZ hw wi E V C K1 hty S hz (by omega) (by omega) (fun i hi => by rw [hcv i (by omega)]; exact hall _ (List.getElem_mem _)) hfr hlo) (fun P a hp => ⟨hp.1, hp.2.1, hp.2.2.1, by rw [e]; exact hp.2.2.2⟩) (fun P a v B hp hq => ?_)
  obtain ⟨L, ⟨q1, q2, q3, q4, q5, q6, q7, ⟨V', v1, v2, v3, v4, v5⟩, q9⟩, hl, hc, hs⟩ := hq
  refine ⟨L, ⟨q1, q2, q3, q4, q5, q6, q7, ⟨V'.cls, v3, V', v1, rfl, by rw [v4, e, hlen], K4, fun i hi => ?_, fun i hi => ?_⟩, q9⟩, hl, hc, by rw [hs, e]⟩
  · have hi' : i < cs.length := by omega
    rw [v5 i (by omega), hcv i hi']; simp [List.getD_eq_getElem?_getD, hi']
  · have hi' : i < cs.length := by omega
    simp only [List.getD_eq_getElem?_getD, List.getElem?_map, List.getElem?_eq_getElem hi', Option.map_some, Option.getD_some]
    exact fits_lo8 _
end StrChars.Road
namespace StrChars.Road
open Jvm Sem ClassFile Op Lib Jvm.Stand Jvm.Free Jvm.Free.XT
/-- WHAT COMES BACK, in the writer's own shape -/
def QV (Z : State) (x : Addr) (N : Int32) (bs : List Int32) (h : Heap) (n0 : Nat) (v : Option Value) (h' : Heap) (L : List Loc) : Prop := v = none ∧ RoadKit.Fr n0 L ∧ RoadKit.Keep h h' [x] ∧ RoadKit.Exa Z h' x ST ∧ RoadKit.Fld Z h' x ST "coder" "B" (.int 0) ∧
  ∃ (t : Addr) (kb : ClassId), n0 ≤ t ∧ h.size ≤ t ∧ ¬ t = x ∧ RoadKit.Fld Z h' x ST "value" "[B" (.ref t) ∧ RoadKit.Arv Z h' t kb .byte N (bs.map Value.int) (.int 0)
/-- **new String(chars) AT A CALL, FOR THE WRITER**: a char[] of n known ints, each 0 to 255 -/
theorem backV {p : Program} {l : Launch} {e : Env} {R : Room} {s : State} {args : Array Value} {below : List Frame} {len W : Nat} {Z : State} {a0 : Array Value} {h : Heap} (hZ : Z.Warmed39 s.vm) (hw : ∀ d ∈ words, d.before a0 Z = true) {kI : Nat} (wi : (Jvm.Cond.instantiable ST kI).before a0 Z = true)
    {x b : Addr} {kC : ClassId} {cs bs : List Int32} {d v0 c0 : Value} {z N : Int32} {n n0 : Nat} (hx0 : n0 ≤ x) (hh0 : n0 ≤ h.size) (E : RoadKit.Exa Z h x ST) (V : RoadKit.Fld Z h x ST "value" "[B" v0) (C : RoadKit.Fld Z h x ST "coder" "B" c0) (K : RoadKit.Arv Z h b kC .char N (cs.map Value.int) d) (S : RoadKit.Sta Z h ST "COMPACT_STRINGS" "Z" (.int z)) (hz : ¬ z = 0)
    (hn : cs.length = n) (hN : N = Int32.ofNat n) (l0 : 0 < n) (l2 : n ≤ 4000) (hp : ∀ c ∈ cs, ¬ c < 0 ∧ ¬ (255 : Int32) < c) (hb : bs = cs.map (fun c => c.toInt8.toInt32)) (hfr : 4 ≤ R.frames) (hlo : W + 65 ≤ R.locals) :
    Back l R p e below s args (⟨"java/lang/String", "<init>", "([C)V"⟩ : MethodName) len W (fun P a => a = #[.ref x, .ref b] ∧ P.U.heap = h ∧ P.cells + 1 ≤ R.cells ∧ P.slots + n ≤ R.slots)
      (fun P _ v B => ∃ L, QV Z x N bs h n0 v B.U.heap L ∧ B.locs = P.locs ++ L ∧ B.cells = P.cells + 1 ∧ B.slots = P.slots + n) := by
  subst hn hN hb
  refine Back.mono (backArv hZ hw wi E V C K S hz (n32 (by omega)) l0 (by omega) (fun c hc => (hp c hc).2) hfr hlo) (fun P a hp => hp) (fun P a v B hp hq => ?_)
  obtain ⟨L, ⟨q1, q2, q3, q4, q5, q6, q7, ⟨kb, v1, v2⟩, q9⟩, hl, hc, hs⟩ := hq
  exact ⟨L, ⟨q1, fun y hy => by rw [q2 y hy]; exact hx0, q3, q5, q7, h.size, kb, hh0, Nat.le_refl _, Nat.ne_of_gt E.lt, q6, by rw [List.map_map]; exact v2⟩, hl, hc, hs⟩
end StrChars.Road
namespace StrChars
open Jvm Sem ClassFile Op Lib Jvm.Stand Jvm.Free.XT Jvm.Free.ALB Jvm.Free.JM Jvm.Free
open Jvm.Lib.Cold (StaticIs)
def hi8 (x : Int32) : Int32 := lo8 (x >>> ((8 : Int32) &&& 31))
/-- what StringUTF16.getChar makes of two bytes -/
def pairCh (u v : Int32) : Int32 := (((u &&& 255) <<< ((0 : Int32) &&& 31)) ||| ((v &&& 255) <<< ((8 : Int32) &&& 31))).toUInt32.toUInt16.toUInt32.toInt32
theorem lo8_and (x : Int32) : (lo8 x &&& 255).toBitVec.toNat = x.toBitVec.toNat % 256 := by
  have h : (lo8 x).toBitVec = (x.toBitVec.signExtend 8).signExtend 32 := by rw [lo8, Int8.toBitVec_toInt32, Int32.toBitVec_toInt8]
  rw [Int32.toBitVec_and, BitVec.toNat_and, h]
  have e : ((x.toBitVec.signExtend 8).signExtend 32).toNat % 256 = x.toBitVec.toNat % 256 := by
    rw [BitVec.toNat_signExtend]
    have hlt := x.toBitVec.isLt
    simp only [BitVec.toNat_setWidth, BitVec.toNat_signExtend]
    split <;> split <;> omega
  rw [← e]
  exact Nat.and_two_pow_sub_one_eq_mod _ 8
theorem pair_says {c : Int32} (h0 : ¬ c < 0) (h1 : ¬ 65535 < c) : pairCh (lo8 c) (hi8 c) = c := by
  rw [Int32.lt_iff_toInt_lt] at h0 h1
  have e0 : (0 : Int32).toInt = 0 := rfl
  have e1 : (65535 : Int32).toInt = 65535 := rfl
  have hc : c.toInt = c.toBitVec.toNat := by
    have := c.toBitVec.isLt
    have e : c.toInt = c.toBitVec.toInt := rfl
    rw [e] at h0 h1
    rw [e]
    rw [BitVec.toInt_eq_toNat_cond] at h0 h1 ⊢
    split at h0 <;> split <;> omega
  have hn : c.toBitVec.toNat < 65536 := by omega
  have a1 := lo8_and c
  have a2 : (hi8 c &&& 255).toBitVec.toNat = c.toBitVec.toNat / 256 := by
    rw [hi8, lo8_and]
    have e : ((8 : Int32) &&& 31) = 8 := by decide
    rw [e, Int32.toBitVec_shiftRight]
    have e2 : ((8 : Int32).toBitVec.smod 32) = 8#32 := by decide
    rw [e2, BitVec.sshiftRight_eq', BitVec.toNat_sshiftRight_of_msb_false (by rw [BitVec.msb_eq_false_iff_two_mul_lt]; omega)]
    show c.toBitVec.toNat >>> 8 % 256 = _
    rw [Nat.shiftRight_eq_div_pow]
    omega
  unfold pairCh
  apply Int32.toBitVec_inj.mp
  apply BitVec.eq_of_toNat_eq
  have f0 : ((0 : Int32) &&& 31) = 0 := by decide
  have f8 : ((8 : Int32) &&& 31) = 8 := by decide
  rw [f0, f8]
  have g : (((lo8 c &&& 255) <<< (0 : Int32)) ||| ((hi8 c &&& 255) <<< (8 : Int32))).toBitVec.toNat = c.toBitVec.toNat := by
    rw [Int32.toBitVec_or, Int32.toBitVec_shiftLeft, Int32.toBitVec_shiftLeft]
    have s0 : ((0 : Int32).toBitVec.smod 32) = 0#32 := by decide
    have s8 : ((8 : Int32).toBitVec.smod 32) = 8#32 := by decide
    rw [s0, s8, BitVec.toNat_or]
    simp only [BitVec.shiftLeft_eq', BitVec.toNat_shiftLeft, a1, a2]
    show (c.toBitVec.toNat % 256) <<< 0 % 2 ^ 32 ||| (c.toBitVec.toNat / 256) <<< 8 % 2 ^ 32 = _
    rw [Nat.shiftLeft_zero, Nat.mod_eq_of_lt (show c.toBitVec.toNat % 256 < 2 ^ 32 by omega), Nat.mod_eq_of_lt (show (c.toBitVec.toNat / 256) <<< 8 < 2 ^ 32 by rw [Nat.shiftLeft_eq]; omega), Nat.or_comm, ← Nat.shiftLeft_add_eq_or_of_lt (by omega), Nat.shiftLeft_eq]
    omega
  show BitVec.toNat (((((lo8 c &&& 255) <<< (0 : Int32)) ||| ((hi8 c &&& 255) <<< (8 : Int32))).toBitVec.setWidth 16).setWidth 32) = _
  rw [BitVec.toNat_setWidth, BitVec.toNat_setWidth, g]
  omega
end StrChars
namespace StrChars
open Jvm Sem ClassFile Op Lib Jvm.Stand Jvm.Free.XT Jvm.Free.ALB Jvm.Free.JM Jvm.Free
open Jvm.Lib.Cold (StaticIs)
/-- charAt's cast of a byte read back -/
def chr8 (u : Int32) : Int32 := (u &&& 255).toUInt32.toUInt16.toUInt32.toInt32
theorem chr8_lo8 {c : Int32} (h0 : ¬ c < 0) (h1 : ¬ 255 < c) : chr8 (lo8 c) = c := by
  have t : ∀ k : Fin 256, (Int32.ofNat k.val).toUInt32.toUInt16.toUInt32.toInt32 = Int32.ofNat k.val := by decide +kernel
  unfold chr8
  rw [lo8_mask h0 h1]
  rw [Int32.lt_iff_toInt_lt] at h0 h1
  have e0 : (0 : Int32).toInt = 0 := rfl
  have e1 : (255 : Int32).toInt = 255 := rfl
  obtain ⟨k, hk⟩ : ∃ k : Nat, c.toInt = k := ⟨c.toInt.toNat, by omega⟩
  have hx : c = Int32.ofNat k := Int32.toInt_inj.mp (by rw [hk, Int32.toInt_ofNat_small (by omega)])
  rw [hx]
  exact t ⟨k, by omega⟩
theorem narrow_ch {c : Int32} (h0 : ¬ c < 0) (h1 : ¬ 65535 < c) : narrow .char (.int c) = .int c := by
  have q : narrow .char (.int (pairCh (lo8 c) (hi8 c))) = .int (pairCh (lo8 c) (hi8 c)) := narrow_c _
  rwa [pair_says h0 h1] at q
/-- the array's cell V codes the n chars f 0 .. f (n - 1) by the coder cd, as the JDK does: coder 1 just where some char is above 255 -/
def Cod (cd : Int32) (n : Nat) (f : Nat → Int32) (V : Cell) : Prop := (cd = 0 ∧ V.slots.size = n ∧ ∀ j, j < n → V.slots[j]? = some (.int (lo8 (f j))) ∧ ¬ 255 < f j) ∨ (cd = 1 ∧ V.slots.size = 2 * n ∧ (∀ j, j < n → V.slots[2 * j]? = some (.int (lo8 (f j))) ∧ V.slots[2 * j + 1]? = some (.int (hi8 (f j)))) ∧ ∃ j, j < n ∧ 255 < f j)
theorem Cod.cd {cd : Int32} {n : Nat} {f : Nat → Int32} {V : Cell} (h : Cod cd n f V) : cd = 0 ∨ cd = 1 := h.imp (fun q => q.1) fun q => q.1
/-- **x is a String of the n chars f 0 .. f (n - 1)**, Latin-1 or UTF-16; its array at t has the cell V -/
def Txt (x t : Addr) (V : Cell) (cd : Int32) (n : Nat) (f : Nat → Int32) (U : State) : Prop := Exact "java/lang/String" x U ∧ Has x "java/lang/String" "value" "[B" (.ref t) U ∧ Has x "java/lang/String" "coder" "B" (.int cd) U ∧ XT.Arr .byte t V U ∧ Cod cd n f V ∧ ∀ j, j < n → ¬ f j < 0 ∧ ¬ 65535 < f j
theorem Txt.mv {x t : Addr} {V : Cell} {cd : Int32} {n : Nat} {f : Nat → Int32} {U U' : State} (h : Txt x t V cd n f U) (hal : U.vm.Alike U'.vm) (hh : U'.heap = U.heap) : Txt x t V cd n f U' := ⟨h.1.mv hal hh, h.2.1.mv hal hh, h.2.2.1.mv hal hh, h.2.2.2.1.mv hal hh, h.2.2.2.2⟩
namespace IsL
def yN : MethodName := ⟨"java/lang/String", "isLatin1", "()Z"⟩
abbrev yB : ByteArray := jdk_42_method_154_code
theorem d0 : decode yB 0 = .ok (.getstatic 38, 3) := by decide +kernel
theorem d3 : decode yB 3 = .ok (.ifCond (.eq) 14, 3) := by decide +kernel
theorem d6 : decode yB 6 = .ok (.aload_n 0, 1) := by decide +kernel
theorem d7 : decode yB 7 = .ok (.getfield 15, 3) := by decide +kernel
theorem d10 : decode yB 10 = .ok (.ifCond (.ne) 7, 3) := by decide +kernel
theorem d13 : decode yB 13 = .ok (.iconst 1, 1) := by decide +kernel
theorem d14 : decode yB 14 = .ok (.goto 4, 3) := by decide +kernel
theorem d17 : decode yB 17 = .ok (.iconst 0, 1) := by decide +kernel
theorem d18 : decode yB 18 = .ok (.ireturn, 1) := by decide +kernel
def site : List Cond := [.fieldLink "java/lang/String" 38 "java/lang/String" "COMPACT_STRINGS" "Z", .fieldLink "java/lang/String" 15 "java/lang/String" "coder" "B"]
def tab : Cond := tabOf yN yB 1 (some .boolean) site
def P (x : Addr) (cd z : Int32) (args : Array Value) (s : State) : Prop := args = #[.ref x] ∧ Has x "java/lang/String" "coder" "B" (.int cd) s ∧ (cd = 0 ∨ cd = 1) ∧ StaticIs s "java/lang/String" "COMPACT_STRINGS" "Z" (.int z) ∧ ¬ z = 0
def E (cd : Int32) (r : Option Value) (s u : State) : Prop := XT.PureE (some (.int (1 - cd))) r s u
theorem law (l : Launch) (x : Addr) (cd z : Int32) : Law l yN 1 0 0 0 yB 1 (some .boolean) site (P x cd z) (E cd) [] 0 0 := by
  refine Law.of_walk (plainFor_of_name (by decide +kernel)) (by decide +kernel) (by decide +kernel) (by decide) (fun _ _ h => by rw [h.1]; rfl) (fun _ U U' hal hh h => ⟨h.1, h.2.1.mv hal hh, h.2.2.1, h.2.2.2.1.there hal hh, h.2.2.2.2⟩) (fun r U U' V V' h1 hal h2 h => XT.PureE.mv r U U' V V' h1 hal h2 h) ?_
  intro p e s m args below meth c s₁ X0 hexec hbytes hml hret hlk hnm hown hh0 W hP
  obtain ⟨rfl, hx, hc, s1, hz⟩ := hP
  have c1 : Steps p.tables e below (s₁.setTop (entryFrame m #[.ref x] 1)) (s₁.setTop (mkF m 0 #[.val (.ref x)] [])) := entry rfl
  obtain ⟨T2, X2, q2, st2⟩ := X0.sget hexec hown (wk W (.fieldLink "java/lang/String" 38 "java/lang/String" "COMPACT_STRINGS" "Z")) s1 (fun _ _ h => by rw [hh0]; exact h) (g := (mkF m 0 #[.val (.ref x)] [])) rfl (hb hbytes d0)
  have hh2 := q2.trans hh0
  have c3 : Steps p.tables e below (s₁.setTop (entryFrame m #[.ref x] 1)) (T2.setTop (mkF m 7 #[.val (.ref x)] [.ref x])) := (c1.trans (st2 _ (Steps.refl _))).trans (by
    refine XS.ifNo X2.here hexec rfl (hb hbytes d3) rfl (i0_eq_f hz) ?_
    refine XS.aloadN X2.here hexec rfl (hb hbytes d6) rfl rfl ?_
    exact Steps.refl _)
  obtain ⟨T4, X4, q4, st4⟩ := X2.hget hexec hown (wk W (.fieldLink "java/lang/String" 15 "java/lang/String" "coder" "B")) (hx.mv X2.warmed.alike hh2) (g := (mkF m 7 #[.val (.ref x)] [.ref x])) rfl (rest := []) rfl (hb hbytes d7)
  have c5 : Steps p.tables e below (s₁.setTop (entryFrame m #[.ref x] 1)) (T4.setTop (mkF m 10 #[.val (.ref x)] [.int cd])) := c3.trans (st4 _ (Steps.refl _))
  have c6 : Steps p.tables e below (s₁.setTop (entryFrame m #[.ref x] 1)) (T4.setTop (mkF m 18 #[.val (.ref x)] [.int (1 - cd)])) := by
    rcases hc with rfl | rfl
    · exact c5.trans (by
        refine XS.ifNo X4.here hexec rfl (hb hbytes d10) rfl (i0_ne_f rfl) ?_
        refine iconstV X4.here hexec rfl 1 (hb hbytes d13) (by decide) ?_
        refine XS.goto X4.here hexec rfl (pc0 := 14) rfl (hb hbytes d14) (by decide) rfl ?_
        exact Steps.refl _)
    · exact c5.trans (by
        refine XS.ifYes X4.here hexec rfl (pc0 := 10) rfl (hb hbytes d10) rfl (i0_ne_t (by decide)) (by decide) rfl ?_
        refine iconstV X4.here hexec rfl 0 (hb hbytes d17) (by decide) ?_
        exact Steps.refl _)
  exact ⟨T4, some (.int (1 - cd)), _, _, _, X4, rfl, rfl, rfl, (fun h => by cases h), ⟨rfl, q4.trans hh2⟩, fun fs hl => c6.trans (X4.ireturnOut hexec hret (by rcases hc with rfl | rfl <;> rfl) (Or.inr (Or.inl rfl)) (hb hbytes d18) hl)⟩
end IsL
namespace LChA
def yN : MethodName := ⟨"java/lang/StringLatin1", "charAt", "([BI)C"⟩
abbrev yB : ByteArray := jdk_43_method_2_code
theorem d0 : decode yB 0 = .ok (.iload_n 1, 1) := by decide +kernel
theorem d1 : decode yB 1 = .ok (.aload_n 0, 1) := by decide +kernel
theorem d2 : decode yB 2 = .ok (.arraylength, 1) := by decide +kernel
theorem d3 : decode yB 3 = .ok (.invokestatic 9, 3) := by decide +kernel
theorem d6 : decode yB 6 = .ok (.aload_n 0, 1) := by decide +kernel
theorem d7 : decode yB 7 = .ok (.iload_n 1, 1) := by decide +kernel
theorem d8 : decode yB 8 = .ok (.baload, 1) := by decide +kernel
theorem d9 : decode yB 9 = .ok (.sipush 255, 3) := by decide +kernel
theorem d12 : decode yB 12 = .ok (.iand, 1) := by decide +kernel
theorem d13 : decode yB 13 = .ok (.i2c, 1) := by decide +kernel
theorem d14 : decode yB 14 = .ok (.ireturn, 1) := by decide +kernel
def site : List Cond := [JO.Str_checkIndex.tab] ++ staticW "java/lang/StringLatin1" 9 JO.Str_checkIndex.yN
def tab : Cond := tabOf yN yB 2 (some .char) site
def P (t : Addr) (V : Cell) (i : Nat) (u : Int32) (fm : Value) (args : Array Value) (s : State) : Prop := args = #[.ref t, .int (Int32.ofNat i)] ∧ XT.Arr .byte t V s ∧ V.slots[i]? = some (.int u) ∧ (StaticIs s "jdk/internal/util/Preconditions" "SIOOBE_FORMATTER" "Ljava/util/function/BiFunction;" fm ∧ fm.isRef = true)
def E (u : Int32) (r : Option Value) (s w : State) : Prop := XT.PureE (some (.int (chr8 u))) r s w
theorem law (l : Launch) (t : Addr) (V : Cell) (i : Nat) (u : Int32) (fm : Value) : Law l yN 2 2 2 27 yB 2 (some .char) site (P t V i u fm) (E u) [] 0 0 := by
  refine Law.of_walk (plainFor_of_name (by decide +kernel)) (by decide +kernel) (by decide +kernel) (by decide) (fun _ _ h => by rw [h.1]; rfl) (fun _ U U' hal hh h => ⟨h.1, h.2.1.mv hal hh, h.2.2.1, h.2.2.2.1.there hal hh, h.2.2.2.2⟩) (fun r U U' V V' h1 hal h2 h => XT.PureE.mv r U U' V V' h1 hal h2 h) ?_
  intro p e s m args below meth c s₁ X0 hexec hbytes hml hret hlk hnm hown hh0 W hP
  obtain ⟨rfl, hV, hu, s1, rf⟩ := hP
  have v31 := hV.2.2.2
  have hi : i < V.slots.size := (Array.getElem?_eq_some_iff.mp hu).1
  have c1 : Steps p.tables e below (s₁.setTop (entryFrame m #[.ref t, .int (Int32.ofNat i)] 2)) (s₁.setTop (mkF m 0 #[.val (.ref t), .val (.int (Int32.ofNat i))] [])) := entry rfl
  have c2 : Steps p.tables e below (s₁.setTop (entryFrame m #[.ref t, .int (Int32.ofNat i)] 2)) (s₁.setTop (mkF m 3 #[.val (.ref t), .val (.int (Int32.ofNat i))] [.int (Int32.ofNat V.slots.size), .int (Int32.ofNat i)])) := c1.trans (by
    refine XS.iloadN X0.here hexec rfl (hb hbytes d0) rfl ?_
    refine XS.aloadN X0.here hexec rfl (hb hbytes d1) rfl rfl ?_
    refine X0.alen hexec (hV.mv X0.warmed.alike hh0) rfl rfl (hb hbytes d2) ?_
    exact Steps.refl _)
  obtain ⟨v3, T3, X3, E3, g3⟩ := X0.callS hexec (JO.Str_checkIndex.law l (Int32.ofNat i) (Int32.ofNat V.slots.size) fm) hown (wks W (staticW "java/lang/StringLatin1" 9 JO.Str_checkIndex.yN)) (wk W JO.Str_checkIndex.tab) (W := 0) (Nat.le_of_ble_eq_true rfl) (Nat.le_of_ble_eq_true rfl) (Nat.le_refl _) (Nat.le_refl _) (g := (mkF m 3 #[.val (.ref t), .val (.int (Int32.ofNat i))] [.int (Int32.ofNat V.slots.size), .int (Int32.ofNat i)])) rfl (by rw [hml]; rfl) c2 (argsL := [.int (Int32.ofNat i), .int (Int32.ofNat V.slots.size)]) (rest := []) rfl rfl (by show 2 * 0 + 0 ≤ _; decide) (hb hbytes d3) (⟨rfl, rf, s1.there X0.warmed.alike hh0, Int32.ofNat_not_neg (by omega), lt32 v31 hi⟩)
  obtain ⟨rfl, q3⟩ := E3
  have hh3 := q3.trans hh0
  have c4 : Steps p.tables e below (s₁.setTop (entryFrame m #[.ref t, .int (Int32.ofNat i)] 2)) (T3.setTop (mkF m 14 #[.val (.ref t), .val (.int (Int32.ofNat i))] [.int (chr8 u)])) := Steps.trans g3 (by
    refine XS.aloadN X3.here hexec rfl (hb hbytes d6) rfl rfl ?_
    refine XS.iloadN X3.here hexec rfl (hb hbytes d7) rfl ?_
    refine X3.aget hexec (hV.mv X3.warmed.alike hh3) rfl hu rfl rfl (hb hbytes d8) ?_
    refine sipushV X3.here hexec rfl 255 (hb hbytes d9) (by decide) ?_
    refine XS.iand X3.here hexec rfl (hb hbytes d12) rfl ?_
    refine i2c X3.here hexec rfl (hb hbytes d13) rfl ?_
    exact Steps.refl _)
  exact ⟨T3, some (.int (chr8 u)), _, _, _, X3, rfl, rfl, rfl, (fun h => by cases h), ⟨rfl, hh3⟩, fun fs hl => c4.trans (X3.ireturnOut hexec hret (narrow_c _) (Or.inr (Or.inr (Or.inr (Or.inl rfl)))) (hb hbytes d14) hl)⟩
end LChA
end StrChars
namespace StrChars.Road
open Jvm Sem ClassFile Op Lib Jvm.Stand Jvm.Free Jvm.Free.XT
open Jvm.Lib.Cold (StaticIs)
theorem consq {a : Array Value} {s : State} {c : Jvm.Cond} {L : List Jvm.Cond} (h0 : c.before a s = true) (h : ∀ w ∈ L, w.before a s = true) : ∀ w ∈ c :: L, w.before a s = true := fun w hw => (List.mem_cons.mp hw).elim (fun e => e ▸ h0) (h w)
/-- the bytes of the chars cs, low before high -/
def wideBytes : List Int32 → List Value
  | [] => []
  | c :: cs => .int (lo8 c) :: .int (hi8 c) :: wideBytes cs
theorem wide_lo (d : Value) : ∀ (cs : List Int32) (j : Nat), j < cs.length → (wideBytes cs).getD (2 * j) d = .int (lo8 (cs.getD j 0))
  | [], j, h => absurd h (Nat.not_lt_zero j)
  | c :: cs, 0, _ => rfl
  | c :: cs, j + 1, h => by
    have q := wide_lo d cs j (by simpa using h)
    rw [show 2 * (j + 1) = 2 * j + 1 + 1 from by omega]
    simpa [wideBytes] using q
theorem wide_hi (d : Value) : ∀ (cs : List Int32) (j : Nat), j < cs.length → (wideBytes cs).getD (2 * j + 1) d = .int (hi8 (cs.getD j 0))
  | [], j, h => absurd h (Nat.not_lt_zero j)
  | c :: cs, 0, _ => rfl
  | c :: cs, j + 1, h => by
    have q := wide_hi d cs j (by simpa using h)
    rw [show 2 * (j + 1) + 1 = 2 * j + 1 + 1 + 1 from by omega]
    simpa [wideBytes] using q
theorem low_at (d : Value) (cs : List Int32) (j : Nat) (h : j < cs.length) : (cs.map fun c => Value.int (lo8 c)).getD j d = .int (lo8 (cs.getD j 0)) := by
  simp [List.getD_eq_getElem?_getD, h]
/-- an array of N2 bytes vs codes the chars cs by the coder cd -/
def CodA (cs : List Int32) (cd N2 : Int32) (vs : List Value) : Prop := (cd = 0 ∧ N2 = Int32.ofNat cs.length ∧ vs = (cs.map fun c => Value.int (lo8 c)) ∧ ∀ c ∈ cs, ¬ 255 < c) ∨ (cd = 1 ∧ N2 = Int32.ofNat (2 * cs.length) ∧ vs = wideBytes cs ∧ ∃ c ∈ cs, 255 < c)
theorem CodA.cod {cs : List Int32} {cd N2 : Int32} {vs : List Value} {V : Cell} (h : CodA cs cd N2 vs) (hn : 2 * cs.length < 2 ^ 31) (hs : V.slots.size = N2.toNatClampNeg) (hv : RoadKit.Has V vs (.int 0)) : Cod cd cs.length (fun j => cs.getD j 0) V := by
  rcases h with ⟨rfl, rfl, rfl, h⟩ | ⟨rfl, rfl, rfl, c, hc, hw⟩
  · rw [n32 (by omega)] at hs
    exact Or.inl ⟨rfl, hs, fun j hj => ⟨by rw [hv j (by omega), low_at _ _ _ hj], by
      have e : cs.getD j 0 = cs[j] := by simp [List.getD_eq_getElem?_getD, hj]
      show ¬ 255 < cs.getD j 0
      rw [e]; exact h _ (List.getElem_mem _)⟩⟩
  · rw [n32 (by omega)] at hs
    obtain ⟨j, hj, rfl⟩ := List.getElem_of_mem hc
    exact Or.inr ⟨rfl, hs, fun j hj => ⟨by rw [hv _ (by omega), wide_lo _ _ _ hj], by rw [hv _ (by omega), wide_hi _ _ _ hj]⟩, j, hj, by
      have e : cs.getD j 0 = cs[j] := by simp [List.getD_eq_getElem?_getD, hj]
      show 255 < cs.getD j 0
      rw [e]; exact hw⟩
/-- an object of exactly java/lang/String, its two fields found: as the laws ask it -/
theorem strObj {Z U : State} {a0 : Array Value} {kI : Nat} (wi : (Jvm.Cond.instantiable ST kI).before a0 Z = true) (al : Z.vm.Alike U.vm) {x : Addr} {v0 c0 : Value} (E : RoadKit.Exa Z U.heap x ST) (V : RoadKit.Fld Z U.heap x ST "value" "[B" v0) (C : RoadKit.Fld Z U.heap x ST "coder" "B" c0) :
    ∃ (D : Cell) (fV fC : Field), Blank ST x D U ∧ Found ST "value" "[B" fV U ∧ Found ST "coder" "B" fC U ∧ D.slots[fV.slot]? = some v0 ∧ D.slots[fC.slot]? = some c0 ∧ RoadKit.slotOf Z ST "value" "[B" = fV.slot ∧ RoadKit.slotOf Z ST "coder" "B" = fC.slot := by
  obtain ⟨D, cfV, kV, iV, fV, hD, gV, stV, knV, obV, asV, slV⟩ := V
  obtain ⟨D', cfC, kC, iC, fC, hD', gC, stC, -, -, asC, slC⟩ := C
  cases hD.symm.trans hD'
  obtain ⟨D2, kD, e1, e2, e3, e4, e5⟩ := E
  cases hD.symm.trans e1
  obtain ⟨c2, k2, i1, i2, i3, -⟩ := Cond.instantiable_spec wi
  cases e2.symm.trans i1
  cases e3.symm.trans i2
  obtain ⟨kU, u1, u2⟩ := al.2.2 _ _ e3
  exact ⟨D, fV, fC, ⟨hD, ⟨knV, fun q hq => by rw [hq] at obV; cases obV⟩, by rw [al.findClass]; exact e2, kU, u1, by rw [u2]; exact i3, by rw [u2]; exact e5 i3⟩, ⟨SBG.found_only al ⟨cfV, kV, iV, gV⟩, stV⟩, ⟨SBG.found_only al ⟨cfC, kC, iC, gC⟩, stC⟩, slV, slC, by simp [RoadKit.slotOf, gV], by simp [RoadKit.slotOf, gC]⟩
theorem sta_is {Z U : State} (al : Z.vm.Alike U.vm) {C n d : String} {v : Value} (S : RoadKit.Sta Z U.heap C n d v) : StaticIs U C n d v := by
  obtain ⟨cfS, iS, kS, fS, st, cS, t1, t2, t3, t4, t5, t6, t7⟩ := S
  exact StaticIs.there (s := { Z with heap := U.heap }) ⟨cfS, iS, kS, fS, st, cS, t1, t2, t3, t4, t5, (fun q => by rw [q] at t6; cases t6), t7⟩ al rfl
end StrChars.Road
namespace StrChars.Road
open Jvm Sem ClassFile Op Lib Jvm.Stand Jvm.Free Jvm.Free.XT
open Jvm.Lib.Cold (StaticIs)
/-- the road's facts of a String, as the laws ask it -/
theorem txt_of {Z U : State} {a0 : Array Value} {kI : Nat} (wi : (Jvm.Cond.instantiable ST kI).before a0 Z = true) (al : Z.vm.Alike U.vm) {x t : Addr} {kb : ClassId} {cs : List Int32} {cd N2 : Int32} {vs : List Value} (E : RoadKit.Exa Z U.heap x ST) (V : RoadKit.Fld Z U.heap x ST "value" "[B" (.ref t)) (C : RoadKit.Fld Z U.heap x ST "coder" "B" (.int cd)) (K : RoadKit.Arv Z U.heap t kb .byte N2 vs (.int 0)) (hc : CodA cs cd N2 vs) (hb : ∀ c ∈ cs, ¬ c < 0 ∧ ¬ (65535 : Int32) < c) (l2 : cs.length ≤ 4000) :
    ∃ A, Txt x t A cd cs.length (fun j => cs.getD j 0) U := by
  obtain ⟨A, K1, K2, K3, K4, K5, K6⟩ := K
  have hcod := hc.cod (by omega) K3 K5
  obtain ⟨D, fV, fC, hB, F1, F2, g1, g2, -, -⟩ := strObj wi al E V C
  exact ⟨A, ⟨_, hB.2.2.1, D, hB.1, rfl, by cases q : D.vm <;> first | rfl | exact absurd q (hB.2.1.2 _)⟩, Has.of hB F1 g1, Has.of hB F2 g2, ⟨K1.1, State.isArrayOf_alike al K1.2.1, K1.2.2, by rcases hcod with ⟨-, q, -⟩ | ⟨-, q, -⟩ <;> omega⟩, hcod, fun j hj => by
    have e : cs.getD j 0 = cs[j] := by simp [List.getD_eq_getElem?_getD, hj]
    show ¬ cs.getD j 0 < 0 ∧ ¬ 65535 < cs.getD j 0
    rw [e]; exact hb _ (List.getElem_mem _)⟩
end StrChars.Road
namespace StrChars
open Jvm Sem ClassFile Op Lib Jvm.Stand Jvm.Free.XT Jvm.Free.ALB Jvm.Free.JM Jvm.Free
open Jvm.Lib.Cold (StaticIs)
namespace ChN
def yN : MethodName := ⟨"java/lang/String", "charAt", "(I)C"⟩
abbrev yB : ByteArray := jdk_42_method_56_code
theorem d0 : decode yB 0 = .ok (.aload_n 0, 1) := by decide +kernel
theorem d1 : decode yB 1 = .ok (.invokevirtual 492, 3) := by decide +kernel
theorem d4 : decode yB 4 = .ok (.ifCond (.eq) 12, 3) := by decide +kernel
theorem d7 : decode yB 7 = .ok (.aload_n 0, 1) := by decide +kernel
theorem d8 : decode yB 8 = .ok (.getfield 9, 3) := by decide +kernel
theorem d11 : decode yB 11 = .ok (.iload_n 1, 1) := by decide +kernel
theorem d12 : decode yB 12 = .ok (.invokestatic 495, 3) := by decide +kernel
theorem d15 : decode yB 15 = .ok (.ireturn, 1) := by decide +kernel
def site : List Cond := [.fieldLink "java/lang/String" 9 "java/lang/String" "value" "[B", IsL.tab, LChA.tab] ++ virtW "java/lang/String" 492 "java/lang/String" IsL.yN IsL.yN ++ staticW "java/lang/String" 495 LChA.yN
def tab : Cond := tabOf yN yB 2 (some .char) site
def P (x t : Addr) (V : Cell) (n : Nat) (f : Nat → Int32) (z : Int32) (fm : Value) (i : Nat) (args : Array Value) (s : State) : Prop := args = #[.ref x, .int (Int32.ofNat i)] ∧ Txt x t V 0 n f s ∧ i < n ∧ StaticIs s "java/lang/String" "COMPACT_STRINGS" "Z" (.int z) ∧ ¬ z = 0 ∧ StaticIs s "jdk/internal/util/Preconditions" "SIOOBE_FORMATTER" "Ljava/util/function/BiFunction;" fm ∧ fm.isRef = true
def E (f : Nat → Int32) (i : Nat) (r : Option Value) (s u : State) : Prop := XT.PureE (some (.int (f i))) r s u
/-- charAt(i) of a Latin-1 String of n chars, i < n: f i -/
theorem law (l : Launch) (x t : Addr) (V : Cell) (n : Nat) (f : Nat → Int32) (z : Int32) (fm : Value) (i : Nat) : Law l yN 2 1 3 40 yB 2 (some .char) site (P x t V n f z fm i) (E f i) [] 0 0 := by
  refine Law.of_walk (plainFor_of_name (by decide +kernel)) (by decide +kernel) (by decide +kernel) (by decide) (fun _ _ h => by rw [h.1]; rfl) (fun _ U U' hal hh h => ⟨h.1, h.2.1.mv hal hh, h.2.2.1, h.2.2.2.1.there hal hh, h.2.2.2.2.1, h.2.2.2.2.2.1.there hal hh, h.2.2.2.2.2.2⟩) (fun r U U' V V' h1 hal h2 h => XT.PureE.mv r U U' V V' h1 hal h2 h) ?_
  intro p e s m args below meth c s₁ X0 hexec hbytes hml hret hlk hnm hown hh0 W hP
  obtain ⟨rfl, hx, hi, s1, hz, s3, rf⟩ := hP
  have v31 := hx.2.2.2.1.2.2.2
  have hr := hx.2.2.2.2.2 i hi
  have hx0 := hx.mv X0.warmed.alike hh0
  have c1 : Steps p.tables e below (s₁.setTop (entryFrame m #[.ref x, .int (Int32.ofNat i)] 2)) (s₁.setTop (mkF m 1 #[.val (.ref x), .val (.int (Int32.ofNat i))] [.ref x])) := Steps.trans (entry rfl) (by
    show Steps p.tables e below (s₁.setTop (mkF m 0 #[.val (.ref x), .val (.int (Int32.ofNat i))] [])) _
    refine XS.aloadN X0.here hexec rfl (hb hbytes d0) rfl rfl ?_
    exact Steps.refl _)
  obtain ⟨v2, T2, X2, E2, g2⟩ := X0.callV hexec (IsL.law l x 0 z) hown (wks W (virtW "java/lang/String" 492 "java/lang/String" IsL.yN IsL.yN)) rfl (by decide) (wk W IsL.tab) (W := 0) (Nat.le_of_ble_eq_true rfl) (Nat.le_of_ble_eq_true rfl) (Nat.le_refl _) (Nat.le_refl _) (hx0.1.fc X0.warmed.alike) hx0.1.is (g := (mkF m 1 #[.val (.ref x), .val (.int (Int32.ofNat i))] [.ref x])) rfl (by rw [hml]; rfl) c1 (argsL := []) (rest := []) rfl rfl (by show 2 * 0 + 0 ≤ _; decide) (hb hbytes d1) (⟨rfl, hx0.2.2.1, hx.2.2.2.2.1.cd, s1.there X0.warmed.alike hh0, hz⟩)
  obtain ⟨rfl, q2⟩ := E2
  have hh2 := q2.trans hh0
  have hx2 := hx.mv X2.warmed.alike hh2
  obtain ⟨-, k1, k2⟩ | ⟨k0, -⟩ := hx.2.2.2.2.1
  · have c3 : Steps p.tables e below (s₁.setTop (entryFrame m #[.ref x, .int (Int32.ofNat i)] 2)) (T2.setTop (mkF m 8 #[.val (.ref x), .val (.int (Int32.ofNat i))] [.ref x])) := Steps.trans g2 (by
      refine XS.ifNo X2.here hexec rfl (hb hbytes d4) rfl (i0_eq_f (by decide)) ?_
      refine XS.aloadN X2.here hexec rfl (hb hbytes d7) rfl rfl ?_
      exact Steps.refl _)
    obtain ⟨T4, X4, q4, st4⟩ := X2.hget hexec hown (wk W (.fieldLink "java/lang/String" 9 "java/lang/String" "value" "[B")) hx2.2.1 (g := (mkF m 8 #[.val (.ref x), .val (.int (Int32.ofNat i))] [.ref x])) rfl (rest := []) rfl (hb hbytes d8)
    have hh4 := q4.trans hh2
    have c5 : Steps p.tables e below (s₁.setTop (entryFrame m #[.ref x, .int (Int32.ofNat i)] 2)) (T4.setTop (mkF m 12 #[.val (.ref x), .val (.int (Int32.ofNat i))] [.int (Int32.ofNat i), .ref t])) := (c3.trans (st4 _ (Steps.refl _))).trans (by
      refine XS.iloadN X4.here hexec rfl (hb hbytes d11) rfl ?_
      exact Steps.refl _)
    obtain ⟨v6, T6, X6, E6, g6⟩ := X4.callS hexec (LChA.law l t V i (lo8 (f i)) fm) hown (wks W (staticW "java/lang/String" 495 LChA.yN)) (wk W LChA.tab) (W := 0) (Nat.le_of_ble_eq_true rfl) (Nat.le_of_ble_eq_true rfl) (Nat.le_refl _) (Nat.le_refl _) (g := (mkF m 12 #[.val (.ref x), .val (.int (Int32.ofNat i))] [.int (Int32.ofNat i), .ref t])) rfl (by rw [hml]; rfl) c5 (argsL := [.ref t, .int (Int32.ofNat i)]) (rest := []) rfl rfl (by show 2 * 0 + 0 ≤ _; decide) (hb hbytes d12) (⟨rfl, hx.2.2.2.1.mv X4.warmed.alike hh4, (k2 i hi).1, s3.there X4.warmed.alike hh4, rf⟩)
    obtain ⟨rfl, q6⟩ := E6
    rw [chr8_lo8 hr.1 (k2 i hi).2] at g6
    exact ⟨T6, some (.int (f i)), _, _, _, X6, rfl, rfl, rfl, (fun h => by cases h), ⟨rfl, q6.trans hh4⟩, fun fs hl => Steps.trans g6 (X6.ireturnOut hexec hret (narrow_ch hr.1 hr.2) (Or.inr (Or.inr (Or.inr (Or.inl rfl)))) (hb hbytes d15) hl)⟩
  · exact absurd k0 (by decide)
theorem pays {l : Launch} {R : Room} {p : Program} {e : Env} {below : List Frame} {s : State} {sargs : Array Value} {len W : Nat} (x t : Addr) (V : Cell) (n : Nat) (f : Nat → Int32) (z : Int32) (fm : Value) (i : Nat) (htab : tab.before sargs s = true) (hfr : 4 ≤ R.frames) (hlo : W + 53 ≤ R.locals) :
    Back l R p e below s sargs yN len W (fun A₁ a₁ => A₁.cells + 0 ≤ R.cells ∧ A₁.slots + 0 ≤ R.slots ∧ P x t V n f z fm i a₁ A₁.U) (fun A₁ _ v₁ B₁ => E f i v₁ A₁.U B₁.U ∧ B₁.locs = A₁.locs ++ [] ∧ B₁.cells = A₁.cells + 0 ∧ B₁.slots = A₁.slots + 0) :=
  (law l x t V n f z fm i).pays htab hfr (by omega)
end ChN
end StrChars
namespace StrChars.Road
open Jvm Sem ClassFile Op Lib Jvm.Stand Jvm.Free Jvm.Free.XT
open Jvm.Lib.Cold (StaticIs)
/-- the words of String.charAt(int), the Latin-1 road alone -/
abbrev wordsChN : List Jvm.Cond := [.code ChN.yN ChN.yB 2 (some .char), .initialized ST, .fieldLink ST 9 ST "value" "[B", .fieldLink ST 38 ST "COMPACT_STRINGS" "Z", .fieldLink ST 15 ST "coder" "B", .code IsL.yN IsL.yB 1 (some .boolean), .methodLink ST 492 IsL.yN, .declares IsL.yN, .selects ST IsL.yN IsL.yN, .instanceMethod IsL.yN,
  .methodLink ST 495 LChA.yN, .static LChA.yN, .code LChA.yN LChA.yB 2 (some .char), .initialized "java/lang/StringLatin1", .methodLink "java/lang/StringLatin1" 9 JO.Str_checkIndex.yN, .static JO.Str_checkIndex.yN, .code JO.Str_checkIndex.yN JO.Str_checkIndex.yB 2 none,
  .fieldLink ST 1053 "jdk/internal/util/Preconditions" "SIOOBE_FORMATTER" "Ljava/util/function/BiFunction;", .methodLink ST 1059 JC.PreCheck.yN, .static JC.PreCheck.yN, .code JC.PreCheck.yN JC.PreCheck.yB 3 (some .int), .initialized "jdk/internal/util/Preconditions"]
theorem tabChN_of {a : Array Value} {s : State} (h : ∀ w ∈ wordsChN, w.before a s = true) : ChN.tab.before a s = true := by
  have hp : JC.PreCheck.tab.before a s = true := unparts (wk h (.code JC.PreCheck.yN JC.PreCheck.yB 3 (some .int))) (wks h (.initialized JC.PreCheck.yN.cls :: JC.PreCheck.site))
  have qk := consq hp h
  have hk : JO.Str_checkIndex.tab.before a s = true := unparts (wk qk (.code JO.Str_checkIndex.yN JO.Str_checkIndex.yB 2 none)) (wks qk (.initialized JO.Str_checkIndex.yN.cls :: JO.Str_checkIndex.site))
  have ql := consq hk h
  have hl : LChA.tab.before a s = true := unparts (wk ql (.code LChA.yN LChA.yB 2 (some .char))) (wks ql (.initialized LChA.yN.cls :: LChA.site))
  have hi : IsL.tab.before a s = true := unparts (wk h (.code IsL.yN IsL.yB 1 (some .boolean))) (wks h (.initialized IsL.yN.cls :: IsL.site))
  have q := consq hi (consq hl h)
  exact unparts (wk q (.code ChN.yN ChN.yB 2 (some .char))) (wks q (.initialized ChN.yN.cls :: ChN.site))
theorem movedChN {Z s : State} {a0 args : Array Value} (hZ : Z.Warmed39 s.vm) (hw : ∀ d ∈ wordsChN, d.before a0 Z = true) : ∀ d ∈ wordsChN, d.before args s = true := fun d hd => by
  have t : ∀ d ∈ wordsChN, (d.onTables && d.keepsFace) = true := by decide +kernel
  exact RoadKit.mv hZ (hw d hd) (t d hd)
/-- **charAt(i) OF A LATIN-1 STRING**, i < n: the char -/
theorem chN {p : Program} {l : Launch} {e : Env} {R : Room} {s : State} {args : Array Value} {below : List Frame} {len W : Nat} {Z : State} {a0 : Array Value} {h : Heap} (hZ : Z.Warmed39 s.vm) (hw : ∀ d ∈ wordsChN, d.before a0 Z = true) {kI : Nat} (wi : (Jvm.Cond.instantiable ST kI).before a0 Z = true)
    {x t : Addr} {kb : ClassId} {cs : List Int32} {N2 z : Int32} {vs : List Value} {fm : Value} {i : Nat} {j : Int32} (E : RoadKit.Exa Z h x ST) (V : RoadKit.Fld Z h x ST "value" "[B" (.ref t)) (C : RoadKit.Fld Z h x ST "coder" "B" (.int 0)) (K : RoadKit.Arv Z h t kb .byte N2 vs (.int 0)) (hc : CodA cs 0 N2 vs) (hb : ∀ c ∈ cs, ¬ c < 0 ∧ ¬ (65535 : Int32) < c)
    (S : RoadKit.Sta Z h ST "COMPACT_STRINGS" "Z" (.int z)) (hz : ¬ z = 0) (F : RoadKit.Sta Z h "jdk/internal/util/Preconditions" "SIOOBE_FORMATTER" "Ljava/util/function/BiFunction;" fm) (rf : fm.isRef = true) (l2 : cs.length ≤ 4000) (hi : i < cs.length) (hj : j = Int32.ofNat i) (hfr : 4 ≤ R.frames) (hlo : W + 53 ≤ R.locals) :
    Back l R p e below s args (⟨"java/lang/String", "charAt", "(I)C"⟩ : MethodName) len W (fun P a => a = #[.ref x, .int j] ∧ P.U.heap = h ∧ P.cells + 0 ≤ R.cells ∧ P.slots + 0 ≤ R.slots)
      (fun P _ v B => ∃ L, (v = some (.int (cs.getD i 0)) ∧ L = [] ∧ B.U.heap = h) ∧ B.locs = P.locs ++ L ∧ B.cells = P.cells + 0 ∧ B.slots = P.slots + 0) := by
  subst hj
  intro m meth c P g ig mk a X hg hsize hdg hW hn hp'
  obtain ⟨rfl, rfl, r1, r2⟩ := hp'
  have al : Z.vm.Alike P.U.vm := hZ.alike.trans X.warmed.alike
  obtain ⟨A, hx⟩ := txt_of wi al E V C K hc hb l2
  obtain ⟨v, B, X', ⟨⟨hv, hh⟩, hl, hk, hs⟩, st⟩ := ChN.pays x t A cs.length (fun j => cs.getD j 0) z fm i (tabChN_of (movedChN hZ hw)) hfr hlo m meth c P g ig mk _ X hg hsize hdg hW hn ⟨r1, r2, rfl, hx, hi, sta_is al S, hz, sta_is al F, rf⟩
  exact ⟨v, B, X', ⟨[], ⟨hv, rfl, hh⟩, hl, hk, hs⟩, st⟩
/-- what backV says of its String, as the contracts of this text ask it: cs's low bytes, coder 0 -/
theorem codOf {cs : List Int32} {n : Nat} (hn : cs.length = n) (hb : ∀ c ∈ cs, ¬ 255 < c) : CodA cs 0 (Int32.ofNat n) ((cs.map lo8).map Value.int) := Or.inl ⟨rfl, by rw [hn], by simp [List.map_map, Function.comp_def], hb⟩
end StrChars.Road
end Jvm.Pilot.@@N@@
namespace Jvm.Pilot.@@N@@
open Jvm Jvm.ClassFile Sem Op Lib Jvm.Free Jvm.Stand Jvm.LawKit Jvm.RoadKit Bundle Jvm.Pilot.@@N@@.Jvm.D
theorem own_sta_keep {Z : State} {h h' : Heap} {C n d : String} {v : Value} (F : Sta Z h C n d v) (K : Keep h h' []) : Sta Z h' C n d v := by
  obtain ⟨cf, i, k, f, st, cell, h1, h2, h3, h4, h5, r⟩ := F
  exact ⟨cf, i, k, f, st, cell, h1, h2, h3, h4, K.2.1 _ _ h5 nin0, r⟩
theorem own_sta_keepE {Z : State} {h h' : Heap} {C n d : String} {v : Value} {ws : List Addr} (F : Sta Z h C n d v) (K : Keep h h' ws) (q : ∀ x ∈ ws, ∃ D, Exa Z h x D) : Sta Z h' C n d v := by
  obtain ⟨cf, i, k, f, st, cell, h1, h2, h3, h4, h5, h6, r⟩ := F
  refine ⟨cf, i, k, f, st, cell, h1, h2, h3, h4, K.2.1 _ _ h5 (fun z => ?_), h6, r⟩
  obtain ⟨D, cell', k', g1, -, -, g4, -⟩ := q _ z
  cases h5.symm.trans g1
  rw [h6] at g4; cases g4
theorem own_up (cs : List Int32) (h : ∀ c ∈ cs, ¬ c < 0 ∧ ¬ (255 : Int32) < c) : ∀ c ∈ cs, ¬ c < 0 ∧ ¬ (65535 : Int32) < c := fun c hc => ⟨(h c hc).1, fun q => (h c hc).2 (by rw [Int32.lt_iff_toInt_lt] at q ⊢; have e1 : (65535 : Int32).toInt = 65535 := rfl; have e2 : (255 : Int32).toInt = 255 := rfl; omega)⟩
theorem own_selp {s : State} {args : Array Value} {y : MethodName} {n : Nat} (wi : (Cond.instantiable y.cls n).before args s = true) (hp : s.PrivateAt y) (hi : (Cond.instanceMethod y).before args s = true) (hy : y.cls ≠ "java/lang/invoke/MethodHandle" ∧ y.cls ≠ "java/lang/invoke/VarHandle" := by decide) : (Cond.selects y.cls y y).before args s = true := by
  obtain ⟨c, k, g1, g2, g3, g4, -⟩ := Cond.instantiable_spec wi
  exact Jvm.Stand.selects_self_of_private g1 g2 (by simp only [Bool.or_eq_false_iff] at g4; exact g4.1) hp hi hy
theorem own_mvMN {Z s : State} {a0 args : Array Value} {own host : String} {index : Nat} {y : MethodName} (hZ : Z.Warmed39 s.vm) (w : (Cond.methodLinkNest own index y host).before a0 Z = true) : (Cond.methodLinkNest own index y host).before args s = true := (Cond.methodLinkNest_wide hZ w :)
theorem d1_0 : decode method_2_code 0 = .ok (.iload_n 0, 1) := by decide +kernel
theorem d1_1 : decode method_2_code 1 = .ok (.iload_n 1, 1) := by decide +kernel
theorem d1_2 : decode method_2_code 2 = .ok (.if_icmp .ne 6, 3) := by decide +kernel
theorem d1_5 : decode method_2_code 5 = .ok (.bipush 46, 2) := by decide +kernel
theorem d1_7 : decode method_2_code 7 = .ok (.ireturn, 1) := by decide +kernel
theorem d1_8 : decode method_2_code 8 = .ok (.iload_n 0, 1) := by decide +kernel
theorem d1_9 : decode method_2_code 9 = .ok (.iload_n 1, 1) := by decide +kernel
theorem d1_10 : decode method_2_code 10 = .ok (.if_icmp .le 9, 3) := by decide +kernel
theorem d1_13 : decode method_2_code 13 = .ok (.iload_n 0, 1) := by decide +kernel
theorem d1_14 : decode method_2_code 14 = .ok (.iconst 1, 1) := by decide +kernel
theorem d1_15 : decode method_2_code 15 = .ok (.isub, 1) := by decide +kernel
theorem d1_16 : decode method_2_code 16 = .ok (.goto 4, 3) := by decide +kernel
theorem d1_20 : decode method_2_code 20 = .ok (.istore 7, 2) := by decide +kernel
theorem d1_22 : decode method_2_code 22 = .ok (.iload_n 3, 1) := by decide +kernel
theorem d1_23 : decode method_2_code 23 = .ok (.ifCond .ne 9, 3) := by decide +kernel
theorem d1_26 : decode method_2_code 26 = .ok (.iload 7, 2) := by decide +kernel
theorem d1_28 : decode method_2_code 28 = .ok (.iload_n 2, 1) := by decide +kernel
theorem d1_29 : decode method_2_code 29 = .ok (.if_icmp .ge 6, 3) := by decide +kernel
theorem d1_32 : decode method_2_code 32 = .ok (.bipush 48, 2) := by decide +kernel
theorem d1_34 : decode method_2_code 34 = .ok (.ireturn, 1) := by decide +kernel
theorem d1_35 : decode method_2_code 35 = .ok (.iload 7, 2) := by decide +kernel
theorem d1_37 : decode method_2_code 37 = .ok (.iload_n 2, 1) := by decide +kernel
theorem d1_38 : decode method_2_code 38 = .ok (.if_icmp .ne 10, 3) := by decide +kernel
theorem d1_41 : decode method_2_code 41 = .ok (.bipush 48, 2) := by decide +kernel
theorem d1_43 : decode method_2_code 43 = .ok (.iload 4, 2) := by decide +kernel
theorem d1_45 : decode method_2_code 45 = .ok (.iadd, 1) := by decide +kernel
theorem d1_46 : decode method_2_code 46 = .ok (.i2c, 1) := by decide +kernel
theorem d1_47 : decode method_2_code 47 = .ok (.ireturn, 1) := by decide +kernel
theorem d1_48 : decode method_2_code 48 = .ok (.bipush 48, 2) := by decide +kernel
theorem d1_50 : decode method_2_code 50 = .ok (.lload 5, 2) := by decide +kernel
theorem d1_52 : decode method_2_code 52 = .ok (.iload 7, 2) := by decide +kernel
theorem d1_54 : decode method_2_code 54 = .ok (.lushr, 1) := by decide +kernel
theorem d1_55 : decode method_2_code 55 = .ok (.ldc2_w 7, 3) := by decide +kernel
theorem d1_58 : decode method_2_code 58 = .ok (.land, 1) := by decide +kernel
theorem d1_59 : decode method_2_code 59 = .ok (.ldc2_w 9, 3) := by decide +kernel
theorem d1_62 : decode method_2_code 62 = .ok (.lrem, 1) := by decide +kernel
theorem d1_63 : decode method_2_code 63 = .ok (.l2i, 1) := by decide +kernel
theorem d1_64 : decode method_2_code 64 = .ok (.iadd, 1) := by decide +kernel
theorem d1_65 : decode method_2_code 65 = .ok (.i2c, 1) := by decide +kernel
theorem d1_66 : decode method_2_code 66 = .ok (.ireturn, 1) := by decide +kernel
theorem d1_19 : decode method_2_code 19 = .ok (.iload_n 0, 1) := by decide +kernel
theorem pn_41 : plainName "com/example/paniere/paniere/DigitsInTwoLongsPinLaw" = true := by first | (simp [plainName, overriddenIn]; done) | decide +kernel
theorem ef_rm1 (m : MethodId) (x0 : Int32) (x1 : Int32) (x2 : Int32) (x3 : Int32) (x4 : Int32) (x5 : Int64) : entryFrame m #[(.int x0), (.int x1), (.int x2), (.int x3), (.int x4), (.long x5)] 8 = mkF m 0 #[.val (.int x0), .val (.int x1), .val (.int x2), .val (.int x3), .val (.int x4), .val (.long x5), .second, .unset] [] := by first | (simp [entryFrame, mkF, argsToLocals, Value.category]; done) | rfl
def own_ch (vi : Int32) (vp : Int32) (vz_ : Int32) (va_ : Int32) (vf : Int32) (vb_ : Int64) : Int32 := (if vi = vp then (46 : Int32) else (if vp < vi then (if va_ = (0 : Int32) then (if (vi - (1 : Int32)) < vz_ then (48 : Int32) else (if (vi - (1 : Int32)) = vz_ then (nar .char (((48 : Int32) + vf).toUInt32.toUInt16.toUInt32.toInt32)) else (nar .char (((48 : Int32) + (((((vb_.toUInt64 >>> ((vi - (1 : Int32)) &&& 0x3f).toInt64.toUInt64).toInt64) &&& (15 : Int64)) % (10 : Int64)).toInt32)).toUInt32.toUInt16.toUInt32.toInt32)))) else (48 : Int32)) else (if va_ = (0 : Int32) then (if vi < vz_ then (48 : Int32) else (if vi = vz_ then (nar .char (((48 : Int32) + vf).toUInt32.toUInt16.toUInt32.toInt32)) else (nar .char (((48 : Int32) + (((((vb_.toUInt64 >>> (vi &&& 0x3f).toInt64.toUInt64).toInt64) &&& (15 : Int64)) % (10 : Int64)).toInt32)).toUInt32.toUInt16.toUInt32.toInt32)))) else (48 : Int32))))
def Q1 (Z : State) (vi : Int32) (vp : Int32) (vz_ : Int32) (va_ : Int32) (vf : Int32) (vb_ : Int64) (h0 : Heap) (n0 : Nat) (v : Option Value) (h : Heap) (L : List Loc) : Prop := v = some (.int (own_ch vi vp vz_ va_ vf vb_)) ∧ Fr n0 L ∧ h = h0
set_option maxRecDepth 65536 in
set_option maxHeartbeats 40000000 in
theorem rm1 (l : Launch) (Z : State) (a0 : Array Value) (hw : ∀ d ∈ tables_1, d.before a0 Z = true) (ws : List Jvm.Cond) (vi : Int32) (vp : Int32) (vz_ : Int32) (va_ : Int32) (vf : Int32) (vb_ : Int64) (h0 : Heap) (n0 : Nat) (Z0 : n0 ≤ h0.size) :
    MetFree l (⟨"com/example/paniere/paniere/DigitsInTwoLongsPinLaw", "ch", "(IIIZIJ)C"⟩ : MethodName) (head1 (Jvm.Cond.code (⟨"com/example/paniere/paniere/DigitsInTwoLongsPinLaw", "ch", "(IIIZIJ)C"⟩ : MethodName) method_2_code 8 (some .char) :: ws) ({ frames := 0, cells := 0, slots := 0, locals := 0 } : Room)) (fun a U => a = #[(.int vi), (.int vp), (.int vz_), (.int va_), (.int vf), (.long vb_)] ∧ Z.Warmed39 U.vm ∧ U.heap = h0) (fun _ _ _ _ _ => True) (fun _ U o U' => ∃ v L, o = .returned v ∧ Q1 Z vi vp vz_ va_ vf vb_ h0 n0 v U'.heap L ∧ FrameEnd U o U' L ({ frames := 0, cells := 0, slots := 0, locals := 0 } : Room).cells ({ frames := 0, cells := 0, slots := 0, locals := 0 } : Room).slots) := by
  refine MetFree.of_bodySF (plainFor_of_name pn_41) hisR ?_
  intro p e s m args below meth c s₁ Bd hml0 hP hK
  obtain ⟨rfl, hZ, hh⟩ := hP
  have hx := Bd.exec
  have hby := Bd.bytes
  have hml : c.maxLocals = 8 := hml0
  have hown : s.vm.findClass "com/example/paniere/paniere/DigitsInTwoLongsPinLaw" = some m.cls := findClass_of_methodNamed Bd.named
  have hnm := (name_of_methodNamed Bd.named Bd.method).1
  have X0 : Stand p l e ({ frames := 0, cells := 0, slots := 0, locals := 0 } : Room) s m #[(.int vi), (.int vp), (.int vz_), (.int va_), (.int vf), (.long vb_)] below meth c s₁ [] 0 0 := Stand.of_body Bd
  have e0 : s₁.heap = h0 := by rw [← hh, Bd.state]; rfl
  have N0 := Fr.nil n0
  have pre0 : ∀ t, Steps p.tables e below (s₁.setTop (mkF m 0 #[.val (.int vi), .val (.int vp), .val (.int vz_), .val (.int va_), .val (.int vf), .val (.long vb_), .second, .unset] [])) t → Steps p.tables e below (s₁.setTop (entryFrame m #[(.int vi), (.int vp), (.int vz_), (.int va_), (.int vf), (.long vb_)] 8)) t := fun t k => castTop (ef_rm1 m vi vp vz_ va_ vf vb_) k
  have pre1 : ∀ t, Steps p.tables e below (s₁.setTop (mkF m 2 #[.val (.int vi), .val (.int vp), .val (.int vz_), .val (.int va_), .val (.int vf), .val (.long vb_), .second, .unset] [(.int vp), (.int vi)])) t → Steps p.tables e below (s₁.setTop (entryFrame m #[(.int vi), (.int vp), (.int vz_), (.int va_), (.int vf), (.long vb_)] 8)) t := by
    intro t kt
    refine pre0 t ?_
    show Steps p.tables e below (s₁.setTop (mkF m 0 #[.val (.int vi), .val (.int vp), .val (.int vz_), .val (.int va_), .val (.int vf), .val (.long vb_), .second, .unset] [])) _
    refine XS.iloadN X0.here hx rfl (hb hby d1_0) rfl ?_
    show Steps p.tables e below (s₁.setTop (mkF m 1 #[.val (.int vi), .val (.int vp), .val (.int vz_), .val (.int va_), .val (.int vf), .val (.long vb_), .second, .unset] [(.int vi)])) _
    refine XS.iloadN X0.here hx rfl (hb hby d1_1) rfl ?_
    exact kt
  by_cases hc2 : vi = vp
  ·
    obtain ⟨fs, hr, hrun, hended, hW, hsame⟩ := X0.leave (v := some (.int (46 : Int32))) (fun h => by rw [Bd.returns] at h; cases h) (hlocks := BodyLoose.notSynchronized Bd)
    refine ⟨_, _, pre1 _ ?_, hrun, hended, _, _, rfl, ?_, ⟨_, rfl⟩, hW, hsame.mono (by decide) (by decide)⟩
    ·
      show Steps p.tables e below (s₁.setTop (mkF m 2 #[.val (.int vi), .val (.int vp), .val (.int vz_), .val (.int va_), .val (.int vf), .val (.long vb_), .second, .unset] [(.int vp), (.int vi)])) _
      refine XS.icmpNo X0.here hx rfl (hb hby d1_2) rfl (teq (hc2 : vi = vp)).2 ?_
      show Steps p.tables e below (s₁.setTop (mkF m 5 #[.val (.int vi), .val (.int vp), .val (.int vz_), .val (.int va_), .val (.int vf), .val (.long vb_), .second, .unset] [])) _
      refine XS.bipush X0.here hx rfl (hb hby d1_5) ?_
      show Steps p.tables e below (s₁.setTop (mkF m 7 #[.val (.int vi), .val (.int vp), .val (.int vz_), .val (.int va_), .val (.int vf), .val (.long vb_), .second, .unset] [(.int (46 : Int32))])) _
      exact retN X0 hx (t := .char) Bd.returns (by simp) (hb hby d1_7) hr
    ·
      show Q1 Z vi vp vz_ va_ vf vb_ h0 n0 _ s₁.heap _
      rw [e0]
      have hv : (46 : Int32) = (own_ch vi vp vz_ va_ vf vb_) := by rw [own_ch, if_pos hc2]
      exact ⟨(congrArg (fun z => some (Value.int z)) hv), N0, rfl⟩
  ·
    have pre3 : ∀ t, Steps p.tables e below (s₁.setTop (mkF m 10 #[.val (.int vi), .val (.int vp), .val (.int vz_), .val (.int va_), .val (.int vf), .val (.long vb_), .second, .unset] [(.int vp), (.int vi)])) t → Steps p.tables e below (s₁.setTop (entryFrame m #[(.int vi), (.int vp), (.int vz_), (.int va_), (.int vf), (.long vb_)] 8)) t := by
      intro t kt
      refine pre1 t ?_
      show Steps p.tables e below (s₁.setTop (mkF m 2 #[.val (.int vi), .val (.int vp), .val (.int vz_), .val (.int va_), .val (.int vf), .val (.long vb_), .second, .unset] [(.int vp), (.int vi)])) _
      refine XS.icmpYes X0.here hx rfl (pc0 := 2) (pc' := 8) rfl (hb hby d1_2) rfl (feq (hc2 : ¬ (vi = vp))).2 (by decide) (by decide) ?_
      show Steps p.tables e below (s₁.setTop (mkF m 8 #[.val (.int vi), .val (.int vp), .val (.int vz_), .val (.int va_), .val (.int vf), .val (.long vb_), .second, .unset] [])) _
      refine XS.iloadN X0.here hx rfl (hb hby d1_8) rfl ?_
      show Steps p.tables e below (s₁.setTop (mkF m 9 #[.val (.int vi), .val (.int vp), .val (.int vz_), .val (.int va_), .val (.int vf), .val (.long vb_), .second, .unset] [(.int vi)])) _
      refine XS.iloadN X0.here hx rfl (hb hby d1_9) rfl ?_
      exact kt
    by_cases hc4 : vp < vi
    ·
      have pre5 : ∀ t, Steps p.tables e below (s₁.setTop (mkF m 23 #[.val (.int vi), .val (.int vp), .val (.int vz_), .val (.int va_), .val (.int vf), .val (.long vb_), .second, .val (.int (vi - (1 : Int32)))] [(.int va_)])) t → Steps p.tables e below (s₁.setTop (entryFrame m #[(.int vi), (.int vp), (.int vz_), (.int va_), (.int vf), (.long vb_)] 8)) t := by
        intro t kt
        refine pre3 t ?_
        show Steps p.tables e below (s₁.setTop (mkF m 10 #[.val (.int vi), .val (.int vp), .val (.int vz_), .val (.int va_), .val (.int vf), .val (.long vb_), .second, .unset] [(.int vp), (.int vi)])) _
        refine XS.icmpNo X0.here hx rfl (hb hby d1_10) rfl (tlt (hc4 : vp < vi)).2.2.2 ?_
        show Steps p.tables e below (s₁.setTop (mkF m 13 #[.val (.int vi), .val (.int vp), .val (.int vz_), .val (.int va_), .val (.int vf), .val (.long vb_), .second, .unset] [])) _
        refine XS.iloadN X0.here hx rfl (hb hby d1_13) rfl ?_
        show Steps p.tables e below (s₁.setTop (mkF m 14 #[.val (.int vi), .val (.int vp), .val (.int vz_), .val (.int va_), .val (.int vf), .val (.long vb_), .second, .unset] [(.int vi)])) _
        refine XS.iconst X0.here hx rfl (hb hby d1_14) ?_
        show Steps p.tables e below (s₁.setTop (mkF m 15 #[.val (.int vi), .val (.int vp), .val (.int vz_), .val (.int va_), .val (.int vf), .val (.long vb_), .second, .unset] [(.int (1 : Int32)), (.int vi)])) _
        refine XS.isub X0.here hx rfl (hb hby d1_15) rfl ?_
        show Steps p.tables e below (s₁.setTop (mkF m 16 #[.val (.int vi), .val (.int vp), .val (.int vz_), .val (.int va_), .val (.int vf), .val (.long vb_), .second, .unset] [(.int (vi - (1 : Int32)))])) _
        refine XS.goto X0.here hx rfl (pc0 := 16) (pc' := 20) rfl (hb hby d1_16) (by decide) (by decide) ?_
        show Steps p.tables e below (s₁.setTop (mkF m 20 #[.val (.int vi), .val (.int vp), .val (.int vz_), .val (.int va_), .val (.int vf), .val (.long vb_), .second, .unset] [(.int (vi - (1 : Int32)))])) _
        refine XS.istore X0.here hx rfl (hb hby d1_20) rfl (l' := #[.val (.int vi), .val (.int vp), .val (.int vz_), .val (.int va_), .val (.int vf), .val (.long vb_), .second, .val (.int (vi - (1 : Int32)))]) rfl ?_
        show Steps p.tables e below (s₁.setTop (mkF m 22 #[.val (.int vi), .val (.int vp), .val (.int vz_), .val (.int va_), .val (.int vf), .val (.long vb_), .second, .val (.int (vi - (1 : Int32)))] [])) _
        refine XS.iloadN X0.here hx rfl (hb hby d1_22) rfl ?_
        exact kt
      by_cases hc6 : va_ = (0 : Int32)
      ·
        have pre7 : ∀ t, Steps p.tables e below (s₁.setTop (mkF m 29 #[.val (.int vi), .val (.int vp), .val (.int vz_), .val (.int va_), .val (.int vf), .val (.long vb_), .second, .val (.int (vi - (1 : Int32)))] [(.int vz_), (.int (vi - (1 : Int32)))])) t → Steps p.tables e below (s₁.setTop (entryFrame m #[(.int vi), (.int vp), (.int vz_), (.int va_), (.int vf), (.long vb_)] 8)) t := by
          intro t kt
          refine pre5 t ?_
          show Steps p.tables e below (s₁.setTop (mkF m 23 #[.val (.int vi), .val (.int vp), .val (.int vz_), .val (.int va_), .val (.int vf), .val (.long vb_), .second, .val (.int (vi - (1 : Int32)))] [(.int va_)])) _
          refine XS.ifNo X0.here hx rfl (hb hby d1_23) rfl ((if0 _ _).trans (teq (hc6 : va_ = (0 : Int32))).2) ?_
          show Steps p.tables e below (s₁.setTop (mkF m 26 #[.val (.int vi), .val (.int vp), .val (.int vz_), .val (.int va_), .val (.int vf), .val (.long vb_), .second, .val (.int (vi - (1 : Int32)))] [])) _
          refine XS.iload X0.here hx rfl (hb hby d1_26) rfl ?_
          show Steps p.tables e below (s₁.setTop (mkF m 28 #[.val (.int vi), .val (.int vp), .val (.int vz_), .val (.int va_), .val (.int vf), .val (.long vb_), .second, .val (.int (vi - (1 : Int32)))] [(.int (vi - (1 : Int32)))])) _
          refine XS.iloadN X0.here hx rfl (hb hby d1_28) rfl ?_
          exact kt
        by_cases hc8 : (vi - (1 : Int32)) < vz_
        ·
          obtain ⟨fs, hr, hrun, hended, hW, hsame⟩ := X0.leave (v := some (.int (48 : Int32))) (fun h => by rw [Bd.returns] at h; cases h) (hlocks := BodyLoose.notSynchronized Bd)
          refine ⟨_, _, pre7 _ ?_, hrun, hended, _, _, rfl, ?_, ⟨_, rfl⟩, hW, hsame.mono (by decide) (by decide)⟩
          ·
            show Steps p.tables e below (s₁.setTop (mkF m 29 #[.val (.int vi), .val (.int vp), .val (.int vz_), .val (.int va_), .val (.int vf), .val (.long vb_), .second, .val (.int (vi - (1 : Int32)))] [(.int vz_), (.int (vi - (1 : Int32)))])) _
            refine XS.icmpNo X0.here hx rfl (hb hby d1_29) rfl (tlt (hc8 : (vi - (1 : Int32)) < vz_)).2.1 ?_
            show Steps p.tables e below (s₁.setTop (mkF m 32 #[.val (.int vi), .val (.int vp), .val (.int vz_), .val (.int va_), .val (.int vf), .val (.long vb_), .second, .val (.int (vi - (1 : Int32)))] [])) _
            refine XS.bipush X0.here hx rfl (hb hby d1_32) ?_
            show Steps p.tables e below (s₁.setTop (mkF m 34 #[.val (.int vi), .val (.int vp), .val (.int vz_), .val (.int va_), .val (.int vf), .val (.long vb_), .second, .val (.int (vi - (1 : Int32)))] [(.int (48 : Int32))])) _
            exact retN X0 hx (t := .char) Bd.returns (by simp) (hb hby d1_34) hr
          ·
            show Q1 Z vi vp vz_ va_ vf vb_ h0 n0 _ s₁.heap _
            rw [e0]
            have hv : (48 : Int32) = (own_ch vi vp vz_ va_ vf vb_) := by rw [own_ch, if_neg hc2, if_pos hc4, if_pos hc6, if_pos hc8]
            exact ⟨(congrArg (fun z => some (Value.int z)) hv), N0, rfl⟩
        ·
          have pre9 : ∀ t, Steps p.tables e below (s₁.setTop (mkF m 38 #[.val (.int vi), .val (.int vp), .val (.int vz_), .val (.int va_), .val (.int vf), .val (.long vb_), .second, .val (.int (vi - (1 : Int32)))] [(.int vz_), (.int (vi - (1 : Int32)))])) t → Steps p.tables e below (s₁.setTop (entryFrame m #[(.int vi), (.int vp), (.int vz_), (.int va_), (.int vf), (.long vb_)] 8)) t := by
            intro t kt
            refine pre7 t ?_
            show Steps p.tables e below (s₁.setTop (mkF m 29 #[.val (.int vi), .val (.int vp), .val (.int vz_), .val (.int va_), .val (.int vf), .val (.long vb_), .second, .val (.int (vi - (1 : Int32)))] [(.int vz_), (.int (vi - (1 : Int32)))])) _
            refine XS.icmpYes X0.here hx rfl (pc0 := 29) (pc' := 35) rfl (hb hby d1_29) rfl (flt (hc8 : ¬ ((vi - (1 : Int32)) < vz_))).2.1 (by decide) (by decide) ?_
            show Steps p.tables e below (s₁.setTop (mkF m 35 #[.val (.int vi), .val (.int vp), .val (.int vz_), .val (.int va_), .val (.int vf), .val (.long vb_), .second, .val (.int (vi - (1 : Int32)))] [])) _
            refine XS.iload X0.here hx rfl (hb hby d1_35) rfl ?_
            show Steps p.tables e below (s₁.setTop (mkF m 37 #[.val (.int vi), .val (.int vp), .val (.int vz_), .val (.int va_), .val (.int vf), .val (.long vb_), .second, .val (.int (vi - (1 : Int32)))] [(.int (vi - (1 : Int32)))])) _
            refine XS.iloadN X0.here hx rfl (hb hby d1_37) rfl ?_
            exact kt
          by_cases hc10 : (vi - (1 : Int32)) = vz_
          ·
            obtain ⟨fs, hr, hrun, hended, hW, hsame⟩ := X0.leave (v := some (.int (nar .char (((48 : Int32) + vf).toUInt32.toUInt16.toUInt32.toInt32)))) (fun h => by rw [Bd.returns] at h; cases h) (hlocks := BodyLoose.notSynchronized Bd)
            refine ⟨_, _, pre9 _ ?_, hrun, hended, _, _, rfl, ?_, ⟨_, rfl⟩, hW, hsame.mono (by decide) (by decide)⟩
            ·
              show Steps p.tables e below (s₁.setTop (mkF m 38 #[.val (.int vi), .val (.int vp), .val (.int vz_), .val (.int va_), .val (.int vf), .val (.long vb_), .second, .val (.int (vi - (1 : Int32)))] [(.int vz_), (.int (vi - (1 : Int32)))])) _
              refine XS.icmpNo X0.here hx rfl (hb hby d1_38) rfl (teq (hc10 : (vi - (1 : Int32)) = vz_)).2 ?_
              show Steps p.tables e below (s₁.setTop (mkF m 41 #[.val (.int vi), .val (.int vp), .val (.int vz_), .val (.int va_), .val (.int vf), .val (.long vb_), .second, .val (.int (vi - (1 : Int32)))] [])) _
              refine XS.bipush X0.here hx rfl (hb hby d1_41) ?_
              show Steps p.tables e below (s₁.setTop (mkF m 43 #[.val (.int vi), .val (.int vp), .val (.int vz_), .val (.int va_), .val (.int vf), .val (.long vb_), .second, .val (.int (vi - (1 : Int32)))] [(.int (48 : Int32))])) _
              refine XS.iload X0.here hx rfl (hb hby d1_43) rfl ?_
              show Steps p.tables e below (s₁.setTop (mkF m 45 #[.val (.int vi), .val (.int vp), .val (.int vz_), .val (.int va_), .val (.int vf), .val (.long vb_), .second, .val (.int (vi - (1 : Int32)))] [(.int vf), (.int (48 : Int32))])) _
              refine XS.iadd X0.here hx rfl (hb hby d1_45) rfl ?_
              show Steps p.tables e below (s₁.setTop (mkF m 46 #[.val (.int vi), .val (.int vp), .val (.int vz_), .val (.int va_), .val (.int vf), .val (.long vb_), .second, .val (.int (vi - (1 : Int32)))] [(.int ((48 : Int32) + vf))])) _
              refine XS.i2c X0.here hx rfl (hb hby d1_46) rfl ?_
              show Steps p.tables e below (s₁.setTop (mkF m 47 #[.val (.int vi), .val (.int vp), .val (.int vz_), .val (.int va_), .val (.int vf), .val (.long vb_), .second, .val (.int (vi - (1 : Int32)))] [(.int (((48 : Int32) + vf).toUInt32.toUInt16.toUInt32.toInt32))])) _
              exact retN X0 hx (t := .char) Bd.returns (by simp) (hb hby d1_47) hr
            ·
              show Q1 Z vi vp vz_ va_ vf vb_ h0 n0 _ s₁.heap _
              rw [e0]
              have hv : nar .char (((48 : Int32) + vf).toUInt32.toUInt16.toUInt32.toInt32) = (own_ch vi vp vz_ va_ vf vb_) := by rw [own_ch, if_neg hc2, if_pos hc4, if_pos hc6, if_neg hc8, if_pos hc10]
              exact ⟨(congrArg (fun z => some (Value.int z)) hv), N0, rfl⟩
          ·
            obtain ⟨fs, hr, hrun, hended, hW, hsame⟩ := X0.leave (v := some (.int (nar .char (((48 : Int32) + (((((vb_.toUInt64 >>> ((vi - (1 : Int32)) &&& 0x3f).toInt64.toUInt64).toInt64) &&& (15 : Int64)) % (10 : Int64)).toInt32)).toUInt32.toUInt16.toUInt32.toInt32)))) (fun h => by rw [Bd.returns] at h; cases h) (hlocks := BodyLoose.notSynchronized Bd)
            refine ⟨_, _, pre9 _ ?_, hrun, hended, _, _, rfl, ?_, ⟨_, rfl⟩, hW, hsame.mono (by decide) (by decide)⟩
            ·
              show Steps p.tables e below (s₁.setTop (mkF m 38 #[.val (.int vi), .val (.int vp), .val (.int vz_), .val (.int va_), .val (.int vf), .val (.long vb_), .second, .val (.int (vi - (1 : Int32)))] [(.int vz_), (.int (vi - (1 : Int32)))])) _
              refine XS.icmpYes X0.here hx rfl (pc0 := 38) (pc' := 48) rfl (hb hby d1_38) rfl (feq (hc10 : ¬ ((vi - (1 : Int32)) = vz_))).2 (by decide) (by decide) ?_
              show Steps p.tables e below (s₁.setTop (mkF m 48 #[.val (.int vi), .val (.int vp), .val (.int vz_), .val (.int va_), .val (.int vf), .val (.long vb_), .second, .val (.int (vi - (1 : Int32)))] [])) _
              refine XS.bipush X0.here hx rfl (hb hby d1_48) ?_
              show Steps p.tables e below (s₁.setTop (mkF m 50 #[.val (.int vi), .val (.int vp), .val (.int vz_), .val (.int va_), .val (.int vf), .val (.long vb_), .second, .val (.int (vi - (1 : Int32)))] [(.int (48 : Int32))])) _
              refine XS.lload X0.here hx rfl (hb hby d1_50) rfl ?_
              show Steps p.tables e below (s₁.setTop (mkF m 52 #[.val (.int vi), .val (.int vp), .val (.int vz_), .val (.int va_), .val (.int vf), .val (.long vb_), .second, .val (.int (vi - (1 : Int32)))] [(.long vb_), (.int (48 : Int32))])) _
              refine XS.iload X0.here hx rfl (hb hby d1_52) rfl ?_
              show Steps p.tables e below (s₁.setTop (mkF m 54 #[.val (.int vi), .val (.int vp), .val (.int vz_), .val (.int va_), .val (.int vf), .val (.long vb_), .second, .val (.int (vi - (1 : Int32)))] [(.int (vi - (1 : Int32))), (.long vb_), (.int (48 : Int32))])) _
              refine XS.lushr X0.here hx rfl (hb hby d1_54) rfl ?_
              show Steps p.tables e below (s₁.setTop (mkF m 55 #[.val (.int vi), .val (.int vp), .val (.int vz_), .val (.int va_), .val (.int vf), .val (.long vb_), .second, .val (.int (vi - (1 : Int32)))] [(.long ((vb_.toUInt64 >>> ((vi - (1 : Int32)) &&& 0x3f).toInt64.toUInt64).toInt64)), (.int (48 : Int32))])) _
              refine X0.ldc2J hx hown (mvT hZ (hw _ (List.mem_of_getElem? (i := 82) rfl))) (g := (mkF m 55 #[.val (.int vi), .val (.int vp), .val (.int vz_), .val (.int va_), .val (.int vf), .val (.long vb_), .second, .val (.int (vi - (1 : Int32)))] [(.long ((vb_.toUInt64 >>> ((vi - (1 : Int32)) &&& 0x3f).toInt64.toUInt64).toInt64)), (.int (48 : Int32))])) rfl (hb hby d1_55) ?_
              show Steps p.tables e below (s₁.setTop (mkF m 58 #[.val (.int vi), .val (.int vp), .val (.int vz_), .val (.int va_), .val (.int vf), .val (.long vb_), .second, .val (.int (vi - (1 : Int32)))] [(.long (15 : Int64)), (.long ((vb_.toUInt64 >>> ((vi - (1 : Int32)) &&& 0x3f).toInt64.toUInt64).toInt64)), (.int (48 : Int32))])) _
              refine XS.land X0.here hx rfl (hb hby d1_58) rfl ?_
              show Steps p.tables e below (s₁.setTop (mkF m 59 #[.val (.int vi), .val (.int vp), .val (.int vz_), .val (.int va_), .val (.int vf), .val (.long vb_), .second, .val (.int (vi - (1 : Int32)))] [(.long (((vb_.toUInt64 >>> ((vi - (1 : Int32)) &&& 0x3f).toInt64.toUInt64).toInt64) &&& (15 : Int64))), (.int (48 : Int32))])) _
              refine X0.ldc2J hx hown (mvT hZ (hw _ (List.mem_of_getElem? (i := 83) rfl))) (g := (mkF m 59 #[.val (.int vi), .val (.int vp), .val (.int vz_), .val (.int va_), .val (.int vf), .val (.long vb_), .second, .val (.int (vi - (1 : Int32)))] [(.long (((vb_.toUInt64 >>> ((vi - (1 : Int32)) &&& 0x3f).toInt64.toUInt64).toInt64) &&& (15 : Int64))), (.int (48 : Int32))])) rfl (hb hby d1_59) ?_
              show Steps p.tables e below (s₁.setTop (mkF m 62 #[.val (.int vi), .val (.int vp), .val (.int vz_), .val (.int va_), .val (.int vf), .val (.long vb_), .second, .val (.int (vi - (1 : Int32)))] [(.long (10 : Int64)), (.long (((vb_.toUInt64 >>> ((vi - (1 : Int32)) &&& 0x3f).toInt64.toUInt64).toInt64) &&& (15 : Int64))), (.int (48 : Int32))])) _
              refine own_lremM X0 hx rfl (hb hby d1_62) rfl (by decide) ?_
              show Steps p.tables e below (s₁.setTop (mkF m 63 #[.val (.int vi), .val (.int vp), .val (.int vz_), .val (.int va_), .val (.int vf), .val (.long vb_), .second, .val (.int (vi - (1 : Int32)))] [(.long ((((vb_.toUInt64 >>> ((vi - (1 : Int32)) &&& 0x3f).toInt64.toUInt64).toInt64) &&& (15 : Int64)) % (10 : Int64))), (.int (48 : Int32))])) _
              refine XS.l2i X0.here hx rfl (hb hby d1_63) rfl ?_
              show Steps p.tables e below (s₁.setTop (mkF m 64 #[.val (.int vi), .val (.int vp), .val (.int vz_), .val (.int va_), .val (.int vf), .val (.long vb_), .second, .val (.int (vi - (1 : Int32)))] [(.int (((((vb_.toUInt64 >>> ((vi - (1 : Int32)) &&& 0x3f).toInt64.toUInt64).toInt64) &&& (15 : Int64)) % (10 : Int64)).toInt32)), (.int (48 : Int32))])) _
              refine XS.iadd X0.here hx rfl (hb hby d1_64) rfl ?_
              show Steps p.tables e below (s₁.setTop (mkF m 65 #[.val (.int vi), .val (.int vp), .val (.int vz_), .val (.int va_), .val (.int vf), .val (.long vb_), .second, .val (.int (vi - (1 : Int32)))] [(.int ((48 : Int32) + (((((vb_.toUInt64 >>> ((vi - (1 : Int32)) &&& 0x3f).toInt64.toUInt64).toInt64) &&& (15 : Int64)) % (10 : Int64)).toInt32)))])) _
              refine XS.i2c X0.here hx rfl (hb hby d1_65) rfl ?_
              show Steps p.tables e below (s₁.setTop (mkF m 66 #[.val (.int vi), .val (.int vp), .val (.int vz_), .val (.int va_), .val (.int vf), .val (.long vb_), .second, .val (.int (vi - (1 : Int32)))] [(.int (((48 : Int32) + (((((vb_.toUInt64 >>> ((vi - (1 : Int32)) &&& 0x3f).toInt64.toUInt64).toInt64) &&& (15 : Int64)) % (10 : Int64)).toInt32)).toUInt32.toUInt16.toUInt32.toInt32))])) _
              exact retN X0 hx (t := .char) Bd.returns (by simp) (hb hby d1_66) hr
            ·
              show Q1 Z vi vp vz_ va_ vf vb_ h0 n0 _ s₁.heap _
              rw [e0]
              have hv : nar .char (((48 : Int32) + (((((vb_.toUInt64 >>> ((vi - (1 : Int32)) &&& 0x3f).toInt64.toUInt64).toInt64) &&& (15 : Int64)) % (10 : Int64)).toInt32)).toUInt32.toUInt16.toUInt32.toInt32) = (own_ch vi vp vz_ va_ vf vb_) := by rw [own_ch, if_neg hc2, if_pos hc4, if_pos hc6, if_neg hc8, if_neg hc10]
              exact ⟨(congrArg (fun z => some (Value.int z)) hv), N0, rfl⟩
      ·
        obtain ⟨fs, hr, hrun, hended, hW, hsame⟩ := X0.leave (v := some (.int (48 : Int32))) (fun h => by rw [Bd.returns] at h; cases h) (hlocks := BodyLoose.notSynchronized Bd)
        refine ⟨_, _, pre5 _ ?_, hrun, hended, _, _, rfl, ?_, ⟨_, rfl⟩, hW, hsame.mono (by decide) (by decide)⟩
        ·
          show Steps p.tables e below (s₁.setTop (mkF m 23 #[.val (.int vi), .val (.int vp), .val (.int vz_), .val (.int va_), .val (.int vf), .val (.long vb_), .second, .val (.int (vi - (1 : Int32)))] [(.int va_)])) _
          refine XS.ifYes X0.here hx rfl (pc0 := 23) (pc' := 32) rfl (hb hby d1_23) rfl ((if0 _ _).trans (feq (hc6 : ¬ (va_ = (0 : Int32)))).2) (by decide) (by decide) ?_
          show Steps p.tables e below (s₁.setTop (mkF m 32 #[.val (.int vi), .val (.int vp), .val (.int vz_), .val (.int va_), .val (.int vf), .val (.long vb_), .second, .val (.int (vi - (1 : Int32)))] [])) _
          refine XS.bipush X0.here hx rfl (hb hby d1_32) ?_
          show Steps p.tables e below (s₁.setTop (mkF m 34 #[.val (.int vi), .val (.int vp), .val (.int vz_), .val (.int va_), .val (.int vf), .val (.long vb_), .second, .val (.int (vi - (1 : Int32)))] [(.int (48 : Int32))])) _
          exact retN X0 hx (t := .char) Bd.returns (by simp) (hb hby d1_34) hr
        ·
          show Q1 Z vi vp vz_ va_ vf vb_ h0 n0 _ s₁.heap _
          rw [e0]
          have hv : (48 : Int32) = (own_ch vi vp vz_ va_ vf vb_) := by rw [own_ch, if_neg hc2, if_pos hc4, if_neg hc6]
          exact ⟨(congrArg (fun z => some (Value.int z)) hv), N0, rfl⟩
    ·
      have pre11 : ∀ t, Steps p.tables e below (s₁.setTop (mkF m 23 #[.val (.int vi), .val (.int vp), .val (.int vz_), .val (.int va_), .val (.int vf), .val (.long vb_), .second, .val (.int vi)] [(.int va_)])) t → Steps p.tables e below (s₁.setTop (entryFrame m #[(.int vi), (.int vp), (.int vz_), (.int va_), (.int vf), (.long vb_)] 8)) t := by
        intro t kt
        refine pre3 t ?_
        show Steps p.tables e below (s₁.setTop (mkF m 10 #[.val (.int vi), .val (.int vp), .val (.int vz_), .val (.int va_), .val (.int vf), .val (.long vb_), .second, .unset] [(.int vp), (.int vi)])) _
        refine XS.icmpYes X0.here hx rfl (pc0 := 10) (pc' := 19) rfl (hb hby d1_10) rfl (flt (hc4 : ¬ (vp < vi))).2.2.2 (by decide) (by decide) ?_
        show Steps p.tables e below (s₁.setTop (mkF m 19 #[.val (.int vi), .val (.int vp), .val (.int vz_), .val (.int va_), .val (.int vf), .val (.long vb_), .second, .unset] [])) _
        refine XS.iloadN X0.here hx rfl (hb hby d1_19) rfl ?_
        show Steps p.tables e below (s₁.setTop (mkF m 20 #[.val (.int vi), .val (.int vp), .val (.int vz_), .val (.int va_), .val (.int vf), .val (.long vb_), .second, .unset] [(.int vi)])) _
        refine XS.istore X0.here hx rfl (hb hby d1_20) rfl (l' := #[.val (.int vi), .val (.int vp), .val (.int vz_), .val (.int va_), .val (.int vf), .val (.long vb_), .second, .val (.int vi)]) rfl ?_
        show Steps p.tables e below (s₁.setTop (mkF m 22 #[.val (.int vi), .val (.int vp), .val (.int vz_), .val (.int va_), .val (.int vf), .val (.long vb_), .second, .val (.int vi)] [])) _
        refine XS.iloadN X0.here hx rfl (hb hby d1_22) rfl ?_
        exact kt
      by_cases hc12 : va_ = (0 : Int32)
      ·
        have pre13 : ∀ t, Steps p.tables e below (s₁.setTop (mkF m 29 #[.val (.int vi), .val (.int vp), .val (.int vz_), .val (.int va_), .val (.int vf), .val (.long vb_), .second, .val (.int vi)] [(.int vz_), (.int vi)])) t → Steps p.tables e below (s₁.setTop (entryFrame m #[(.int vi), (.int vp), (.int vz_), (.int va_), (.int vf), (.long vb_)] 8)) t := by
          intro t kt
          refine pre11 t ?_
          show Steps p.tables e below (s₁.setTop (mkF m 23 #[.val (.int vi), .val (.int vp), .val (.int vz_), .val (.int va_), .val (.int vf), .val (.long vb_), .second, .val (.int vi)] [(.int va_)])) _
          refine XS.ifNo X0.here hx rfl (hb hby d1_23) rfl ((if0 _ _).trans (teq (hc12 : va_ = (0 : Int32))).2) ?_
          show Steps p.tables e below (s₁.setTop (mkF m 26 #[.val (.int vi), .val (.int vp), .val (.int vz_), .val (.int va_), .val (.int vf), .val (.long vb_), .second, .val (.int vi)] [])) _
          refine XS.iload X0.here hx rfl (hb hby d1_26) rfl ?_
          show Steps p.tables e below (s₁.setTop (mkF m 28 #[.val (.int vi), .val (.int vp), .val (.int vz_), .val (.int va_), .val (.int vf), .val (.long vb_), .second, .val (.int vi)] [(.int vi)])) _
          refine XS.iloadN X0.here hx rfl (hb hby d1_28) rfl ?_
          exact kt
        by_cases hc14 : vi < vz_
        ·
          obtain ⟨fs, hr, hrun, hended, hW, hsame⟩ := X0.leave (v := some (.int (48 : Int32))) (fun h => by rw [Bd.returns] at h; cases h) (hlocks := BodyLoose.notSynchronized Bd)
          refine ⟨_, _, pre13 _ ?_, hrun, hended, _, _, rfl, ?_, ⟨_, rfl⟩, hW, hsame.mono (by decide) (by decide)⟩
          ·
            show Steps p.tables e below (s₁.setTop (mkF m 29 #[.val (.int vi), .val (.int vp), .val (.int vz_), .val (.int va_), .val (.int vf), .val (.long vb_), .second, .val (.int vi)] [(.int vz_), (.int vi)])) _
            refine XS.icmpNo X0.here hx rfl (hb hby d1_29) rfl (tlt (hc14 : vi < vz_)).2.1 ?_
            show Steps p.tables e below (s₁.setTop (mkF m 32 #[.val (.int vi), .val (.int vp), .val (.int vz_), .val (.int va_), .val (.int vf), .val (.long vb_), .second, .val (.int vi)] [])) _
            refine XS.bipush X0.here hx rfl (hb hby d1_32) ?_
            show Steps p.tables e below (s₁.setTop (mkF m 34 #[.val (.int vi), .val (.int vp), .val (.int vz_), .val (.int va_), .val (.int vf), .val (.long vb_), .second, .val (.int vi)] [(.int (48 : Int32))])) _
            exact retN X0 hx (t := .char) Bd.returns (by simp) (hb hby d1_34) hr
          ·
            show Q1 Z vi vp vz_ va_ vf vb_ h0 n0 _ s₁.heap _
            rw [e0]
            have hv : (48 : Int32) = (own_ch vi vp vz_ va_ vf vb_) := by rw [own_ch, if_neg hc2, if_neg hc4, if_pos hc12, if_pos hc14]
            exact ⟨(congrArg (fun z => some (Value.int z)) hv), N0, rfl⟩
        ·
          have pre15 : ∀ t, Steps p.tables e below (s₁.setTop (mkF m 38 #[.val (.int vi), .val (.int vp), .val (.int vz_), .val (.int va_), .val (.int vf), .val (.long vb_), .second, .val (.int vi)] [(.int vz_), (.int vi)])) t → Steps p.tables e below (s₁.setTop (entryFrame m #[(.int vi), (.int vp), (.int vz_), (.int va_), (.int vf), (.long vb_)] 8)) t := by
            intro t kt
            refine pre13 t ?_
            show Steps p.tables e below (s₁.setTop (mkF m 29 #[.val (.int vi), .val (.int vp), .val (.int vz_), .val (.int va_), .val (.int vf), .val (.long vb_), .second, .val (.int vi)] [(.int vz_), (.int vi)])) _
            refine XS.icmpYes X0.here hx rfl (pc0 := 29) (pc' := 35) rfl (hb hby d1_29) rfl (flt (hc14 : ¬ (vi < vz_))).2.1 (by decide) (by decide) ?_
            show Steps p.tables e below (s₁.setTop (mkF m 35 #[.val (.int vi), .val (.int vp), .val (.int vz_), .val (.int va_), .val (.int vf), .val (.long vb_), .second, .val (.int vi)] [])) _
            refine XS.iload X0.here hx rfl (hb hby d1_35) rfl ?_
            show Steps p.tables e below (s₁.setTop (mkF m 37 #[.val (.int vi), .val (.int vp), .val (.int vz_), .val (.int va_), .val (.int vf), .val (.long vb_), .second, .val (.int vi)] [(.int vi)])) _
            refine XS.iloadN X0.here hx rfl (hb hby d1_37) rfl ?_
            exact kt
          by_cases hc16 : vi = vz_
          ·
            obtain ⟨fs, hr, hrun, hended, hW, hsame⟩ := X0.leave (v := some (.int (nar .char (((48 : Int32) + vf).toUInt32.toUInt16.toUInt32.toInt32)))) (fun h => by rw [Bd.returns] at h; cases h) (hlocks := BodyLoose.notSynchronized Bd)
            refine ⟨_, _, pre15 _ ?_, hrun, hended, _, _, rfl, ?_, ⟨_, rfl⟩, hW, hsame.mono (by decide) (by decide)⟩
            ·
              show Steps p.tables e below (s₁.setTop (mkF m 38 #[.val (.int vi), .val (.int vp), .val (.int vz_), .val (.int va_), .val (.int vf), .val (.long vb_), .second, .val (.int vi)] [(.int vz_), (.int vi)])) _
              refine XS.icmpNo X0.here hx rfl (hb hby d1_38) rfl (teq (hc16 : vi = vz_)).2 ?_
              show Steps p.tables e below (s₁.setTop (mkF m 41 #[.val (.int vi), .val (.int vp), .val (.int vz_), .val (.int va_), .val (.int vf), .val (.long vb_), .second, .val (.int vi)] [])) _
              refine XS.bipush X0.here hx rfl (hb hby d1_41) ?_
              show Steps p.tables e below (s₁.setTop (mkF m 43 #[.val (.int vi), .val (.int vp), .val (.int vz_), .val (.int va_), .val (.int vf), .val (.long vb_), .second, .val (.int vi)] [(.int (48 : Int32))])) _
              refine XS.iload X0.here hx rfl (hb hby d1_43) rfl ?_
              show Steps p.tables e below (s₁.setTop (mkF m 45 #[.val (.int vi), .val (.int vp), .val (.int vz_), .val (.int va_), .val (.int vf), .val (.long vb_), .second, .val (.int vi)] [(.int vf), (.int (48 : Int32))])) _
              refine XS.iadd X0.here hx rfl (hb hby d1_45) rfl ?_
              show Steps p.tables e below (s₁.setTop (mkF m 46 #[.val (.int vi), .val (.int vp), .val (.int vz_), .val (.int va_), .val (.int vf), .val (.long vb_), .second, .val (.int vi)] [(.int ((48 : Int32) + vf))])) _
              refine XS.i2c X0.here hx rfl (hb hby d1_46) rfl ?_
              show Steps p.tables e below (s₁.setTop (mkF m 47 #[.val (.int vi), .val (.int vp), .val (.int vz_), .val (.int va_), .val (.int vf), .val (.long vb_), .second, .val (.int vi)] [(.int (((48 : Int32) + vf).toUInt32.toUInt16.toUInt32.toInt32))])) _
              exact retN X0 hx (t := .char) Bd.returns (by simp) (hb hby d1_47) hr
            ·
              show Q1 Z vi vp vz_ va_ vf vb_ h0 n0 _ s₁.heap _
              rw [e0]
              have hv : nar .char (((48 : Int32) + vf).toUInt32.toUInt16.toUInt32.toInt32) = (own_ch vi vp vz_ va_ vf vb_) := by rw [own_ch, if_neg hc2, if_neg hc4, if_pos hc12, if_neg hc14, if_pos hc16]
              exact ⟨(congrArg (fun z => some (Value.int z)) hv), N0, rfl⟩
          ·
            obtain ⟨fs, hr, hrun, hended, hW, hsame⟩ := X0.leave (v := some (.int (nar .char (((48 : Int32) + (((((vb_.toUInt64 >>> (vi &&& 0x3f).toInt64.toUInt64).toInt64) &&& (15 : Int64)) % (10 : Int64)).toInt32)).toUInt32.toUInt16.toUInt32.toInt32)))) (fun h => by rw [Bd.returns] at h; cases h) (hlocks := BodyLoose.notSynchronized Bd)
            refine ⟨_, _, pre15 _ ?_, hrun, hended, _, _, rfl, ?_, ⟨_, rfl⟩, hW, hsame.mono (by decide) (by decide)⟩
            ·
              show Steps p.tables e below (s₁.setTop (mkF m 38 #[.val (.int vi), .val (.int vp), .val (.int vz_), .val (.int va_), .val (.int vf), .val (.long vb_), .second, .val (.int vi)] [(.int vz_), (.int vi)])) _
              refine XS.icmpYes X0.here hx rfl (pc0 := 38) (pc' := 48) rfl (hb hby d1_38) rfl (feq (hc16 : ¬ (vi = vz_))).2 (by decide) (by decide) ?_
              show Steps p.tables e below (s₁.setTop (mkF m 48 #[.val (.int vi), .val (.int vp), .val (.int vz_), .val (.int va_), .val (.int vf), .val (.long vb_), .second, .val (.int vi)] [])) _
              refine XS.bipush X0.here hx rfl (hb hby d1_48) ?_
              show Steps p.tables e below (s₁.setTop (mkF m 50 #[.val (.int vi), .val (.int vp), .val (.int vz_), .val (.int va_), .val (.int vf), .val (.long vb_), .second, .val (.int vi)] [(.int (48 : Int32))])) _
              refine XS.lload X0.here hx rfl (hb hby d1_50) rfl ?_
              show Steps p.tables e below (s₁.setTop (mkF m 52 #[.val (.int vi), .val (.int vp), .val (.int vz_), .val (.int va_), .val (.int vf), .val (.long vb_), .second, .val (.int vi)] [(.long vb_), (.int (48 : Int32))])) _
              refine XS.iload X0.here hx rfl (hb hby d1_52) rfl ?_
              show Steps p.tables e below (s₁.setTop (mkF m 54 #[.val (.int vi), .val (.int vp), .val (.int vz_), .val (.int va_), .val (.int vf), .val (.long vb_), .second, .val (.int vi)] [(.int vi), (.long vb_), (.int (48 : Int32))])) _
              refine XS.lushr X0.here hx rfl (hb hby d1_54) rfl ?_
              show Steps p.tables e below (s₁.setTop (mkF m 55 #[.val (.int vi), .val (.int vp), .val (.int vz_), .val (.int va_), .val (.int vf), .val (.long vb_), .second, .val (.int vi)] [(.long ((vb_.toUInt64 >>> (vi &&& 0x3f).toInt64.toUInt64).toInt64)), (.int (48 : Int32))])) _
              refine X0.ldc2J hx hown (mvT hZ (hw _ (List.mem_of_getElem? (i := 82) rfl))) (g := (mkF m 55 #[.val (.int vi), .val (.int vp), .val (.int vz_), .val (.int va_), .val (.int vf), .val (.long vb_), .second, .val (.int vi)] [(.long ((vb_.toUInt64 >>> (vi &&& 0x3f).toInt64.toUInt64).toInt64)), (.int (48 : Int32))])) rfl (hb hby d1_55) ?_
              show Steps p.tables e below (s₁.setTop (mkF m 58 #[.val (.int vi), .val (.int vp), .val (.int vz_), .val (.int va_), .val (.int vf), .val (.long vb_), .second, .val (.int vi)] [(.long (15 : Int64)), (.long ((vb_.toUInt64 >>> (vi &&& 0x3f).toInt64.toUInt64).toInt64)), (.int (48 : Int32))])) _
              refine XS.land X0.here hx rfl (hb hby d1_58) rfl ?_
              show Steps p.tables e below (s₁.setTop (mkF m 59 #[.val (.int vi), .val (.int vp), .val (.int vz_), .val (.int va_), .val (.int vf), .val (.long vb_), .second, .val (.int vi)] [(.long (((vb_.toUInt64 >>> (vi &&& 0x3f).toInt64.toUInt64).toInt64) &&& (15 : Int64))), (.int (48 : Int32))])) _
              refine X0.ldc2J hx hown (mvT hZ (hw _ (List.mem_of_getElem? (i := 83) rfl))) (g := (mkF m 59 #[.val (.int vi), .val (.int vp), .val (.int vz_), .val (.int va_), .val (.int vf), .val (.long vb_), .second, .val (.int vi)] [(.long (((vb_.toUInt64 >>> (vi &&& 0x3f).toInt64.toUInt64).toInt64) &&& (15 : Int64))), (.int (48 : Int32))])) rfl (hb hby d1_59) ?_
              show Steps p.tables e below (s₁.setTop (mkF m 62 #[.val (.int vi), .val (.int vp), .val (.int vz_), .val (.int va_), .val (.int vf), .val (.long vb_), .second, .val (.int vi)] [(.long (10 : Int64)), (.long (((vb_.toUInt64 >>> (vi &&& 0x3f).toInt64.toUInt64).toInt64) &&& (15 : Int64))), (.int (48 : Int32))])) _
              refine own_lremM X0 hx rfl (hb hby d1_62) rfl (by decide) ?_
              show Steps p.tables e below (s₁.setTop (mkF m 63 #[.val (.int vi), .val (.int vp), .val (.int vz_), .val (.int va_), .val (.int vf), .val (.long vb_), .second, .val (.int vi)] [(.long ((((vb_.toUInt64 >>> (vi &&& 0x3f).toInt64.toUInt64).toInt64) &&& (15 : Int64)) % (10 : Int64))), (.int (48 : Int32))])) _
              refine XS.l2i X0.here hx rfl (hb hby d1_63) rfl ?_
              show Steps p.tables e below (s₁.setTop (mkF m 64 #[.val (.int vi), .val (.int vp), .val (.int vz_), .val (.int va_), .val (.int vf), .val (.long vb_), .second, .val (.int vi)] [(.int (((((vb_.toUInt64 >>> (vi &&& 0x3f).toInt64.toUInt64).toInt64) &&& (15 : Int64)) % (10 : Int64)).toInt32)), (.int (48 : Int32))])) _
              refine XS.iadd X0.here hx rfl (hb hby d1_64) rfl ?_
              show Steps p.tables e below (s₁.setTop (mkF m 65 #[.val (.int vi), .val (.int vp), .val (.int vz_), .val (.int va_), .val (.int vf), .val (.long vb_), .second, .val (.int vi)] [(.int ((48 : Int32) + (((((vb_.toUInt64 >>> (vi &&& 0x3f).toInt64.toUInt64).toInt64) &&& (15 : Int64)) % (10 : Int64)).toInt32)))])) _
              refine XS.i2c X0.here hx rfl (hb hby d1_65) rfl ?_
              show Steps p.tables e below (s₁.setTop (mkF m 66 #[.val (.int vi), .val (.int vp), .val (.int vz_), .val (.int va_), .val (.int vf), .val (.long vb_), .second, .val (.int vi)] [(.int (((48 : Int32) + (((((vb_.toUInt64 >>> (vi &&& 0x3f).toInt64.toUInt64).toInt64) &&& (15 : Int64)) % (10 : Int64)).toInt32)).toUInt32.toUInt16.toUInt32.toInt32))])) _
              exact retN X0 hx (t := .char) Bd.returns (by simp) (hb hby d1_66) hr
            ·
              show Q1 Z vi vp vz_ va_ vf vb_ h0 n0 _ s₁.heap _
              rw [e0]
              have hv : nar .char (((48 : Int32) + (((((vb_.toUInt64 >>> (vi &&& 0x3f).toInt64.toUInt64).toInt64) &&& (15 : Int64)) % (10 : Int64)).toInt32)).toUInt32.toUInt16.toUInt32.toInt32) = (own_ch vi vp vz_ va_ vf vb_) := by rw [own_ch, if_neg hc2, if_neg hc4, if_pos hc12, if_neg hc14, if_neg hc16]
              exact ⟨(congrArg (fun z => some (Value.int z)) hv), N0, rfl⟩
      ·
        obtain ⟨fs, hr, hrun, hended, hW, hsame⟩ := X0.leave (v := some (.int (48 : Int32))) (fun h => by rw [Bd.returns] at h; cases h) (hlocks := BodyLoose.notSynchronized Bd)
        refine ⟨_, _, pre11 _ ?_, hrun, hended, _, _, rfl, ?_, ⟨_, rfl⟩, hW, hsame.mono (by decide) (by decide)⟩
        ·
          show Steps p.tables e below (s₁.setTop (mkF m 23 #[.val (.int vi), .val (.int vp), .val (.int vz_), .val (.int va_), .val (.int vf), .val (.long vb_), .second, .val (.int vi)] [(.int va_)])) _
          refine XS.ifYes X0.here hx rfl (pc0 := 23) (pc' := 32) rfl (hb hby d1_23) rfl ((if0 _ _).trans (feq (hc12 : ¬ (va_ = (0 : Int32)))).2) (by decide) (by decide) ?_
          show Steps p.tables e below (s₁.setTop (mkF m 32 #[.val (.int vi), .val (.int vp), .val (.int vz_), .val (.int va_), .val (.int vf), .val (.long vb_), .second, .val (.int vi)] [])) _
          refine XS.bipush X0.here hx rfl (hb hby d1_32) ?_
          show Steps p.tables e below (s₁.setTop (mkF m 34 #[.val (.int vi), .val (.int vp), .val (.int vz_), .val (.int va_), .val (.int vf), .val (.long vb_), .second, .val (.int vi)] [(.int (48 : Int32))])) _
          exact retN X0 hx (t := .char) Bd.returns (by simp) (hb hby d1_34) hr
        ·
          show Q1 Z vi vp vz_ va_ vf vb_ h0 n0 _ s₁.heap _
          rw [e0]
          have hv : (48 : Int32) = (own_ch vi vp vz_ va_ vf vb_) := by rw [own_ch, if_neg hc2, if_neg hc4, if_neg hc12]
          exact ⟨(congrArg (fun z => some (Value.int z)) hv), N0, rfl⟩
theorem d17_0 : decode jdk_29_method_65_code 0 = .ok (.iload_n 0, 1) := by decide +kernel
theorem d17_1 : decode jdk_29_method_65_code 1 = .ok (.iload_n 1, 1) := by decide +kernel
theorem d17_2 : decode jdk_29_method_65_code 2 = .ok (.if_icmp .lt 7, 3) := by decide +kernel
theorem d17_9 : decode jdk_29_method_65_code 9 = .ok (.iload_n 1, 1) := by decide +kernel
theorem d17_10 : decode jdk_29_method_65_code 10 = .ok (.ireturn, 1) := by decide +kernel
theorem d17_5 : decode jdk_29_method_65_code 5 = .ok (.iload_n 0, 1) := by decide +kernel
theorem d17_6 : decode jdk_29_method_65_code 6 = .ok (.goto 4, 3) := by decide +kernel
theorem ef_rm17 (m : MethodId) (x0 : Int32) (x1 : Int32) : entryFrame m #[(.int x0), (.int x1)] 2 = mkF m 0 #[.val (.int x0), .val (.int x1)] [] := by first | (simp [entryFrame, mkF, argsToLocals, Value.category]; done) | rfl
def own_max (vx : Int32) (vy : Int32) : Int32 := (if vx < vy then vy else vx)
def Q17 (Z : State) (vx : Int32) (vy : Int32) (h0 : Heap) (n0 : Nat) (v : Option Value) (h : Heap) (L : List Loc) : Prop := v = some (.int (own_max vx vy)) ∧ Fr n0 L ∧ h = h0
set_option maxRecDepth 65536 in
set_option maxHeartbeats 40000000 in
theorem rm17 (l : Launch) (Z : State) (a0 : Array Value) (hw : ∀ d ∈ tables_1, d.before a0 Z = true) (ws : List Jvm.Cond) (vx : Int32) (vy : Int32) (h0 : Heap) (n0 : Nat) (Z0 : n0 ≤ h0.size) :
    MetFree l (⟨"java/lang/Math", "max", "(II)I"⟩ : MethodName) (head1 (Jvm.Cond.code (⟨"java/lang/Math", "max", "(II)I"⟩ : MethodName) jdk_29_method_65_code 2 (some .int) :: ws) ({ frames := 0, cells := 0, slots := 0, locals := 0 } : Room)) (fun a U => a = #[(.int vx), (.int vy)] ∧ Z.Warmed39 U.vm ∧ U.heap = h0) (fun _ _ _ _ _ => True) (fun _ U o U' => ∃ v L, o = .returned v ∧ Q17 Z vx vy h0 n0 v U'.heap L ∧ FrameEnd U o U' L ({ frames := 0, cells := 0, slots := 0, locals := 0 } : Room).cells ({ frames := 0, cells := 0, slots := 0, locals := 0 } : Room).slots) := by
  refine MetFree.of_bodySF (Jvm.Free.JP.mathPlain rfl (by decide +kernel)) hisR ?_
  intro p e s m args below meth c s₁ Bd hml0 hP hK
  obtain ⟨rfl, hZ, hh⟩ := hP
  have hx := Bd.exec
  have hby := Bd.bytes
  have hml : c.maxLocals = 2 := hml0
  have hown : s.vm.findClass "java/lang/Math" = some m.cls := findClass_of_methodNamed Bd.named
  have hnm := (name_of_methodNamed Bd.named Bd.method).1
  have X0 : Stand p l e ({ frames := 0, cells := 0, slots := 0, locals := 0 } : Room) s m #[(.int vx), (.int vy)] below meth c s₁ [] 0 0 := Stand.of_body Bd
  have e0 : s₁.heap = h0 := by rw [← hh, Bd.state]; rfl
  have N0 := Fr.nil n0
  have pre0 : ∀ t, Steps p.tables e below (s₁.setTop (mkF m 0 #[.val (.int vx), .val (.int vy)] [])) t → Steps p.tables e below (s₁.setTop (entryFrame m #[(.int vx), (.int vy)] 2)) t := fun t k => castTop (ef_rm17 m vx vy) k
  have pre1 : ∀ t, Steps p.tables e below (s₁.setTop (mkF m 2 #[.val (.int vx), .val (.int vy)] [(.int vy), (.int vx)])) t → Steps p.tables e below (s₁.setTop (entryFrame m #[(.int vx), (.int vy)] 2)) t := by
    intro t kt
    refine pre0 t ?_
    show Steps p.tables e below (s₁.setTop (mkF m 0 #[.val (.int vx), .val (.int vy)] [])) _
    refine XS.iloadN X0.here hx rfl (hb hby d17_0) rfl ?_
    show Steps p.tables e below (s₁.setTop (mkF m 1 #[.val (.int vx), .val (.int vy)] [(.int vx)])) _
    refine XS.iloadN X0.here hx rfl (hb hby d17_1) rfl ?_
    exact kt
  by_cases hc2 : vx < vy
  ·
    obtain ⟨fs, hr, hrun, hended, hW, hsame⟩ := X0.leave (v := some (.int vy)) (fun h => by rw [Bd.returns] at h; cases h) (hlocks := BodyLoose.notSynchronized Bd)
    refine ⟨_, _, pre1 _ ?_, hrun, hended, _, _, rfl, ?_, ⟨_, rfl⟩, hW, hsame.mono (by decide) (by decide)⟩
    ·
      show Steps p.tables e below (s₁.setTop (mkF m 2 #[.val (.int vx), .val (.int vy)] [(.int vy), (.int vx)])) _
      refine XS.icmpYes X0.here hx rfl (pc0 := 2) (pc' := 9) rfl (hb hby d17_2) rfl (tlt (hc2 : vx < vy)).1 (by decide) (by decide) ?_
      show Steps p.tables e below (s₁.setTop (mkF m 9 #[.val (.int vx), .val (.int vy)] [])) _
      refine XS.iloadN X0.here hx rfl (hb hby d17_9) rfl ?_
      show Steps p.tables e below (s₁.setTop (mkF m 10 #[.val (.int vx), .val (.int vy)] [(.int vy)])) _
      exact retOut X0 hx (t := .int) (i := .ireturn) Bd.returns rfl (Or.inl ⟨rfl, Or.inl rfl, _, rfl⟩) (hb hby d17_10) hr
    ·
      show Q17 Z vx vy h0 n0 _ s₁.heap _
      rw [e0]
      have hv : vy = (own_max vx vy) := by rw [own_max, if_pos hc2]
      exact ⟨(congrArg (fun z => some (Value.int z)) hv), N0, rfl⟩
  ·
    obtain ⟨fs, hr, hrun, hended, hW, hsame⟩ := X0.leave (v := some (.int vx)) (fun h => by rw [Bd.returns] at h; cases h) (hlocks := BodyLoose.notSynchronized Bd)
    refine ⟨_, _, pre1 _ ?_, hrun, hended, _, _, rfl, ?_, ⟨_, rfl⟩, hW, hsame.mono (by decide) (by decide)⟩
    ·
      show Steps p.tables e below (s₁.setTop (mkF m 2 #[.val (.int vx), .val (.int vy)] [(.int vy), (.int vx)])) _
      refine XS.icmpNo X0.here hx rfl (hb hby d17_2) rfl (flt (hc2 : ¬ (vx < vy))).1 ?_
      show Steps p.tables e below (s₁.setTop (mkF m 5 #[.val (.int vx), .val (.int vy)] [])) _
      refine XS.iloadN X0.here hx rfl (hb hby d17_5) rfl ?_
      show Steps p.tables e below (s₁.setTop (mkF m 6 #[.val (.int vx), .val (.int vy)] [(.int vx)])) _
      refine XS.goto X0.here hx rfl (pc0 := 6) (pc' := 10) rfl (hb hby d17_6) (by decide) (by decide) ?_
      show Steps p.tables e below (s₁.setTop (mkF m 10 #[.val (.int vx), .val (.int vy)] [(.int vx)])) _
      exact retOut X0 hx (t := .int) (i := .ireturn) Bd.returns rfl (Or.inl ⟨rfl, Or.inl rfl, _, rfl⟩) (hb hby d17_10) hr
    ·
      show Q17 Z vx vy h0 n0 _ s₁.heap _
      rw [e0]
      have hv : vx = (own_max vx vy) := by rw [own_max, if_neg hc2]
      exact ⟨(congrArg (fun z => some (Value.int z)) hv), N0, rfl⟩
theorem d19_0 : decode jdk_29_method_45_code 0 = .ok (.lload_n 0, 1) := by decide +kernel
theorem d19_1 : decode jdk_29_method_45_code 1 = .ok (.bipush 32, 2) := by decide +kernel
theorem d19_3 : decode jdk_29_method_45_code 3 = .ok (.lshr, 1) := by decide +kernel
theorem d19_4 : decode jdk_29_method_45_code 4 = .ok (.lstore 4, 2) := by decide +kernel
theorem d19_6 : decode jdk_29_method_45_code 6 = .ok (.lload_n 0, 1) := by decide +kernel
theorem d19_7 : decode jdk_29_method_45_code 7 = .ok (.ldc2_w 138, 3) := by decide +kernel
theorem d19_10 : decode jdk_29_method_45_code 10 = .ok (.land, 1) := by decide +kernel
theorem d19_11 : decode jdk_29_method_45_code 11 = .ok (.lstore 6, 2) := by decide +kernel
theorem d19_13 : decode jdk_29_method_45_code 13 = .ok (.lload_n 2, 1) := by decide +kernel
theorem d19_14 : decode jdk_29_method_45_code 14 = .ok (.bipush 32, 2) := by decide +kernel
theorem d19_16 : decode jdk_29_method_45_code 16 = .ok (.lshr, 1) := by decide +kernel
theorem d19_17 : decode jdk_29_method_45_code 17 = .ok (.lstore 8, 2) := by decide +kernel
theorem d19_19 : decode jdk_29_method_45_code 19 = .ok (.lload_n 2, 1) := by decide +kernel
theorem d19_20 : decode jdk_29_method_45_code 20 = .ok (.ldc2_w 138, 3) := by decide +kernel
theorem d19_23 : decode jdk_29_method_45_code 23 = .ok (.land, 1) := by decide +kernel
theorem d19_24 : decode jdk_29_method_45_code 24 = .ok (.lstore 10, 2) := by decide +kernel
theorem d19_26 : decode jdk_29_method_45_code 26 = .ok (.lload 6, 2) := by decide +kernel
theorem d19_28 : decode jdk_29_method_45_code 28 = .ok (.lload 10, 2) := by decide +kernel
theorem d19_30 : decode jdk_29_method_45_code 30 = .ok (.lmul, 1) := by decide +kernel
theorem d19_31 : decode jdk_29_method_45_code 31 = .ok (.lstore 12, 2) := by decide +kernel
theorem d19_33 : decode jdk_29_method_45_code 33 = .ok (.lload 4, 2) := by decide +kernel
theorem d19_35 : decode jdk_29_method_45_code 35 = .ok (.lload 10, 2) := by decide +kernel
theorem d19_37 : decode jdk_29_method_45_code 37 = .ok (.lmul, 1) := by decide +kernel
theorem d19_38 : decode jdk_29_method_45_code 38 = .ok (.lload 12, 2) := by decide +kernel
theorem d19_40 : decode jdk_29_method_45_code 40 = .ok (.bipush 32, 2) := by decide +kernel
theorem d19_42 : decode jdk_29_method_45_code 42 = .ok (.lushr, 1) := by decide +kernel
theorem d19_43 : decode jdk_29_method_45_code 43 = .ok (.ladd, 1) := by decide +kernel
theorem d19_44 : decode jdk_29_method_45_code 44 = .ok (.lstore 14, 2) := by decide +kernel
theorem d19_46 : decode jdk_29_method_45_code 46 = .ok (.lload 14, 2) := by decide +kernel
theorem d19_48 : decode jdk_29_method_45_code 48 = .ok (.ldc2_w 138, 3) := by decide +kernel
theorem d19_51 : decode jdk_29_method_45_code 51 = .ok (.land, 1) := by decide +kernel
theorem d19_52 : decode jdk_29_method_45_code 52 = .ok (.lstore 16, 2) := by decide +kernel
theorem d19_54 : decode jdk_29_method_45_code 54 = .ok (.lload 14, 2) := by decide +kernel
theorem d19_56 : decode jdk_29_method_45_code 56 = .ok (.bipush 32, 2) := by decide +kernel
theorem d19_58 : decode jdk_29_method_45_code 58 = .ok (.lshr, 1) := by decide +kernel
theorem d19_59 : decode jdk_29_method_45_code 59 = .ok (.lstore 18, 2) := by decide +kernel
theorem d19_61 : decode jdk_29_method_45_code 61 = .ok (.lload 16, 2) := by decide +kernel
theorem d19_63 : decode jdk_29_method_45_code 63 = .ok (.lload 6, 2) := by decide +kernel
theorem d19_65 : decode jdk_29_method_45_code 65 = .ok (.lload 8, 2) := by decide +kernel
theorem d19_67 : decode jdk_29_method_45_code 67 = .ok (.lmul, 1) := by decide +kernel
theorem d19_68 : decode jdk_29_method_45_code 68 = .ok (.ladd, 1) := by decide +kernel
theorem d19_69 : decode jdk_29_method_45_code 69 = .ok (.lstore 16, 2) := by decide +kernel
theorem d19_71 : decode jdk_29_method_45_code 71 = .ok (.lload 4, 2) := by decide +kernel
theorem d19_73 : decode jdk_29_method_45_code 73 = .ok (.lload 8, 2) := by decide +kernel
theorem d19_75 : decode jdk_29_method_45_code 75 = .ok (.lmul, 1) := by decide +kernel
theorem d19_76 : decode jdk_29_method_45_code 76 = .ok (.lload 18, 2) := by decide +kernel
theorem d19_78 : decode jdk_29_method_45_code 78 = .ok (.ladd, 1) := by decide +kernel
theorem d19_79 : decode jdk_29_method_45_code 79 = .ok (.lload 16, 2) := by decide +kernel
theorem d19_81 : decode jdk_29_method_45_code 81 = .ok (.bipush 32, 2) := by decide +kernel
theorem d19_83 : decode jdk_29_method_45_code 83 = .ok (.lshr, 1) := by decide +kernel
theorem d19_84 : decode jdk_29_method_45_code 84 = .ok (.ladd, 1) := by decide +kernel
theorem d19_85 : decode jdk_29_method_45_code 85 = .ok (.lreturn, 1) := by decide +kernel
theorem ef_rm19 (m : MethodId) (x0 : Int64) (x1 : Int64) : entryFrame m #[(.long x0), (.long x1)] 20 = mkF m 0 #[.val (.long x0), .second, .val (.long x1), .second, .unset, .unset, .unset, .unset, .unset, .unset, .unset, .unset, .unset, .unset, .unset, .unset, .unset, .unset, .unset, .unset] [] := by first | (simp [entryFrame, mkF, argsToLocals, Value.category]; done) | rfl
def own_mh (vx : Int64) (vy : Int64) : Int64 := ((((vx >>> ((32 : Int32) &&& 0x3f).toInt64) * (vy >>> ((32 : Int32) &&& 0x3f).toInt64)) + ((((vx >>> ((32 : Int32) &&& 0x3f).toInt64) * (vy &&& (4294967295 : Int64))) + ((((vx &&& (4294967295 : Int64)) * (vy &&& (4294967295 : Int64))).toUInt64 >>> ((32 : Int32) &&& 0x3f).toInt64.toUInt64).toInt64)) >>> ((32 : Int32) &&& 0x3f).toInt64)) + ((((((vx >>> ((32 : Int32) &&& 0x3f).toInt64) * (vy &&& (4294967295 : Int64))) + ((((vx &&& (4294967295 : Int64)) * (vy &&& (4294967295 : Int64))).toUInt64 >>> ((32 : Int32) &&& 0x3f).toInt64.toUInt64).toInt64)) &&& (4294967295 : Int64)) + ((vx &&& (4294967295 : Int64)) * (vy >>> ((32 : Int32) &&& 0x3f).toInt64))) >>> ((32 : Int32) &&& 0x3f).toInt64))
def Q19 (Z : State) (vx : Int64) (vy : Int64) (h0 : Heap) (n0 : Nat) (v : Option Value) (h : Heap) (L : List Loc) : Prop := v = some (.long (own_mh vx vy)) ∧ Fr n0 L ∧ h = h0
set_option maxRecDepth 65536 in
set_option maxHeartbeats 40000000 in
theorem rm19 (l : Launch) (Z : State) (a0 : Array Value) (hw : ∀ d ∈ tables_1, d.before a0 Z = true) (ws : List Jvm.Cond) (vx : Int64) (vy : Int64) (h0 : Heap) (n0 : Nat) (Z0 : n0 ≤ h0.size) :
    MetFree l (⟨"java/lang/Math", "multiplyHigh", "(JJ)J"⟩ : MethodName) (head1 (Jvm.Cond.code (⟨"java/lang/Math", "multiplyHigh", "(JJ)J"⟩ : MethodName) jdk_29_method_45_code 20 (some .long) :: ws) ({ frames := 0, cells := 0, slots := 0, locals := 0 } : Room)) (fun a U => a = #[(.long vx), (.long vy)] ∧ Z.Warmed39 U.vm ∧ U.heap = h0) (fun _ _ _ _ _ => True) (fun _ U o U' => ∃ v L, o = .returned v ∧ Q19 Z vx vy h0 n0 v U'.heap L ∧ FrameEnd U o U' L ({ frames := 0, cells := 0, slots := 0, locals := 0 } : Room).cells ({ frames := 0, cells := 0, slots := 0, locals := 0 } : Room).slots) := by
  refine MetFree.of_bodySF (Jvm.Free.JP.mathPlain rfl (by decide +kernel)) hisR ?_
  intro p e s m args below meth c s₁ Bd hml0 hP hK
  obtain ⟨rfl, hZ, hh⟩ := hP
  have hx := Bd.exec
  have hby := Bd.bytes
  have hml : c.maxLocals = 20 := hml0
  have hown : s.vm.findClass "java/lang/Math" = some m.cls := findClass_of_methodNamed Bd.named
  have hnm := (name_of_methodNamed Bd.named Bd.method).1
  have X0 : Stand p l e ({ frames := 0, cells := 0, slots := 0, locals := 0 } : Room) s m #[(.long vx), (.long vy)] below meth c s₁ [] 0 0 := Stand.of_body Bd
  have e0 : s₁.heap = h0 := by rw [← hh, Bd.state]; rfl
  have N0 := Fr.nil n0
  have pre0 : ∀ t, Steps p.tables e below (s₁.setTop (mkF m 0 #[.val (.long vx), .second, .val (.long vy), .second, .unset, .unset, .unset, .unset, .unset, .unset, .unset, .unset, .unset, .unset, .unset, .unset, .unset, .unset, .unset, .unset] [])) t → Steps p.tables e below (s₁.setTop (entryFrame m #[(.long vx), (.long vy)] 20)) t := fun t k => castTop (ef_rm19 m vx vy) k
  obtain ⟨fs, hr, hrun, hended, hW, hsame⟩ := X0.leave (v := some (.long ((((vx >>> ((32 : Int32) &&& 0x3f).toInt64) * (vy >>> ((32 : Int32) &&& 0x3f).toInt64)) + ((((vx >>> ((32 : Int32) &&& 0x3f).toInt64) * (vy &&& (4294967295 : Int64))) + ((((vx &&& (4294967295 : Int64)) * (vy &&& (4294967295 : Int64))).toUInt64 >>> ((32 : Int32) &&& 0x3f).toInt64.toUInt64).toInt64)) >>> ((32 : Int32) &&& 0x3f).toInt64)) + ((((((vx >>> ((32 : Int32) &&& 0x3f).toInt64) * (vy &&& (4294967295 : Int64))) + ((((vx &&& (4294967295 : Int64)) * (vy &&& (4294967295 : Int64))).toUInt64 >>> ((32 : Int32) &&& 0x3f).toInt64.toUInt64).toInt64)) &&& (4294967295 : Int64)) + ((vx &&& (4294967295 : Int64)) * (vy >>> ((32 : Int32) &&& 0x3f).toInt64))) >>> ((32 : Int32) &&& 0x3f).toInt64)))) (fun h => by rw [Bd.returns] at h; cases h) (hlocks := BodyLoose.notSynchronized Bd)
  refine ⟨_, _, pre0 _ ?_, hrun, hended, _, _, rfl, ?_, ⟨_, rfl⟩, hW, hsame.mono (by decide) (by decide)⟩
  ·
    show Steps p.tables e below (s₁.setTop (mkF m 0 #[.val (.long vx), .second, .val (.long vy), .second, .unset, .unset, .unset, .unset, .unset, .unset, .unset, .unset, .unset, .unset, .unset, .unset, .unset, .unset, .unset, .unset] [])) _
    refine XS.lloadN X0.here hx rfl (hb hby d19_0) rfl ?_
    show Steps p.tables e below (s₁.setTop (mkF m 1 #[.val (.long vx), .second, .val (.long vy), .second, .unset, .unset, .unset, .unset, .unset, .unset, .unset, .unset, .unset, .unset, .unset, .unset, .unset, .unset, .unset, .unset] [(.long vx)])) _
    refine XS.bipush X0.here hx rfl (hb hby d19_1) ?_
    show Steps p.tables e below (s₁.setTop (mkF m 3 #[.val (.long vx), .second, .val (.long vy), .second, .unset, .unset, .unset, .unset, .unset, .unset, .unset, .unset, .unset, .unset, .unset, .unset, .unset, .unset, .unset, .unset] [(.int (32 : Int32)), (.long vx)])) _
    refine XS.lshr X0.here hx rfl (hb hby d19_3) rfl ?_
    show Steps p.tables e below (s₁.setTop (mkF m 4 #[.val (.long vx), .second, .val (.long vy), .second, .unset, .unset, .unset, .unset, .unset, .unset, .unset, .unset, .unset, .unset, .unset, .unset, .unset, .unset, .unset, .unset] [(.long (vx >>> ((32 : Int32) &&& 0x3f).toInt64))])) _
    refine XS.lstore X0.here hx rfl (hb hby d19_4) rfl (l' := #[.val (.long vx), .second, .val (.long vy), .second, .val (.long (vx >>> ((32 : Int32) &&& 0x3f).toInt64)), .second, .unset, .unset, .unset, .unset, .unset, .unset, .unset, .unset, .unset, .unset, .unset, .unset, .unset, .unset]) rfl ?_
    show Steps p.tables e below (s₁.setTop (mkF m 6 #[.val (.long vx), .second, .val (.long vy), .second, .val (.long (vx >>> ((32 : Int32) &&& 0x3f).toInt64)), .second, .unset, .unset, .unset, .unset, .unset, .unset, .unset, .unset, .unset, .unset, .unset, .unset, .unset, .unset] [])) _
    refine XS.lloadN X0.here hx rfl (hb hby d19_6) rfl ?_
    show Steps p.tables e below (s₁.setTop (mkF m 7 #[.val (.long vx), .second, .val (.long vy), .second, .val (.long (vx >>> ((32 : Int32) &&& 0x3f).toInt64)), .second, .unset, .unset, .unset, .unset, .unset, .unset, .unset, .unset, .unset, .unset, .unset, .unset, .unset, .unset] [(.long vx)])) _
    refine X0.ldc2J hx hown (mvT hZ (hw _ (List.mem_of_getElem? (i := 101) rfl))) (g := (mkF m 7 #[.val (.long vx), .second, .val (.long vy), .second, .val (.long (vx >>> ((32 : Int32) &&& 0x3f).toInt64)), .second, .unset, .unset, .unset, .unset, .unset, .unset, .unset, .unset, .unset, .unset, .unset, .unset, .unset, .unset] [(.long vx)])) rfl (hb hby d19_7) ?_
    show Steps p.tables e below (s₁.setTop (mkF m 10 #[.val (.long vx), .second, .val (.long vy), .second, .val (.long (vx >>> ((32 : Int32) &&& 0x3f).toInt64)), .second, .unset, .unset, .unset, .unset, .unset, .unset, .unset, .unset, .unset, .unset, .unset, .unset, .unset, .unset] [(.long (4294967295 : Int64)), (.long vx)])) _
    refine XS.land X0.here hx rfl (hb hby d19_10) rfl ?_
    show Steps p.tables e below (s₁.setTop (mkF m 11 #[.val (.long vx), .second, .val (.long vy), .second, .val (.long (vx >>> ((32 : Int32) &&& 0x3f).toInt64)), .second, .unset, .unset, .unset, .unset, .unset, .unset, .unset, .unset, .unset, .unset, .unset, .unset, .unset, .unset] [(.long (vx &&& (4294967295 : Int64)))])) _
    refine XS.lstore X0.here hx rfl (hb hby d19_11) rfl (l' := #[.val (.long vx), .second, .val (.long vy), .second, .val (.long (vx >>> ((32 : Int32) &&& 0x3f).toInt64)), .second, .val (.long (vx &&& (4294967295 : Int64))), .second, .unset, .unset, .unset, .unset, .unset, .unset, .unset, .unset, .unset, .unset, .unset, .unset]) rfl ?_
    show Steps p.tables e below (s₁.setTop (mkF m 13 #[.val (.long vx), .second, .val (.long vy), .second, .val (.long (vx >>> ((32 : Int32) &&& 0x3f).toInt64)), .second, .val (.long (vx &&& (4294967295 : Int64))), .second, .unset, .unset, .unset, .unset, .unset, .unset, .unset, .unset, .unset, .unset, .unset, .unset] [])) _
    refine XS.lloadN X0.here hx rfl (hb hby d19_13) rfl ?_
    show Steps p.tables e below (s₁.setTop (mkF m 14 #[.val (.long vx), .second, .val (.long vy), .second, .val (.long (vx >>> ((32 : Int32) &&& 0x3f).toInt64)), .second, .val (.long (vx &&& (4294967295 : Int64))), .second, .unset, .unset, .unset, .unset, .unset, .unset, .unset, .unset, .unset, .unset, .unset, .unset] [(.long vy)])) _
    refine XS.bipush X0.here hx rfl (hb hby d19_14) ?_
    show Steps p.tables e below (s₁.setTop (mkF m 16 #[.val (.long vx), .second, .val (.long vy), .second, .val (.long (vx >>> ((32 : Int32) &&& 0x3f).toInt64)), .second, .val (.long (vx &&& (4294967295 : Int64))), .second, .unset, .unset, .unset, .unset, .unset, .unset, .unset, .unset, .unset, .unset, .unset, .unset] [(.int (32 : Int32)), (.long vy)])) _
    refine XS.lshr X0.here hx rfl (hb hby d19_16) rfl ?_
    show Steps p.tables e below (s₁.setTop (mkF m 17 #[.val (.long vx), .second, .val (.long vy), .second, .val (.long (vx >>> ((32 : Int32) &&& 0x3f).toInt64)), .second, .val (.long (vx &&& (4294967295 : Int64))), .second, .unset, .unset, .unset, .unset, .unset, .unset, .unset, .unset, .unset, .unset, .unset, .unset] [(.long (vy >>> ((32 : Int32) &&& 0x3f).toInt64))])) _
    refine XS.lstore X0.here hx rfl (hb hby d19_17) rfl (l' := #[.val (.long vx), .second, .val (.long vy), .second, .val (.long (vx >>> ((32 : Int32) &&& 0x3f).toInt64)), .second, .val (.long (vx &&& (4294967295 : Int64))), .second, .val (.long (vy >>> ((32 : Int32) &&& 0x3f).toInt64)), .second, .unset, .unset, .unset, .unset, .unset, .unset, .unset, .unset, .unset, .unset]) rfl ?_
    show Steps p.tables e below (s₁.setTop (mkF m 19 #[.val (.long vx), .second, .val (.long vy), .second, .val (.long (vx >>> ((32 : Int32) &&& 0x3f).toInt64)), .second, .val (.long (vx &&& (4294967295 : Int64))), .second, .val (.long (vy >>> ((32 : Int32) &&& 0x3f).toInt64)), .second, .unset, .unset, .unset, .unset, .unset, .unset, .unset, .unset, .unset, .unset] [])) _
    refine XS.lloadN X0.here hx rfl (hb hby d19_19) rfl ?_
    show Steps p.tables e below (s₁.setTop (mkF m 20 #[.val (.long vx), .second, .val (.long vy), .second, .val (.long (vx >>> ((32 : Int32) &&& 0x3f).toInt64)), .second, .val (.long (vx &&& (4294967295 : Int64))), .second, .val (.long (vy >>> ((32 : Int32) &&& 0x3f).toInt64)), .second, .unset, .unset, .unset, .unset, .unset, .unset, .unset, .unset, .unset, .unset] [(.long vy)])) _
    refine X0.ldc2J hx hown (mvT hZ (hw _ (List.mem_of_getElem? (i := 101) rfl))) (g := (mkF m 20 #[.val (.long vx), .second, .val (.long vy), .second, .val (.long (vx >>> ((32 : Int32) &&& 0x3f).toInt64)), .second, .val (.long (vx &&& (4294967295 : Int64))), .second, .val (.long (vy >>> ((32 : Int32) &&& 0x3f).toInt64)), .second, .unset, .unset, .unset, .unset, .unset, .unset, .unset, .unset, .unset, .unset] [(.long vy)])) rfl (hb hby d19_20) ?_
    show Steps p.tables e below (s₁.setTop (mkF m 23 #[.val (.long vx), .second, .val (.long vy), .second, .val (.long (vx >>> ((32 : Int32) &&& 0x3f).toInt64)), .second, .val (.long (vx &&& (4294967295 : Int64))), .second, .val (.long (vy >>> ((32 : Int32) &&& 0x3f).toInt64)), .second, .unset, .unset, .unset, .unset, .unset, .unset, .unset, .unset, .unset, .unset] [(.long (4294967295 : Int64)), (.long vy)])) _
    refine XS.land X0.here hx rfl (hb hby d19_23) rfl ?_
    show Steps p.tables e below (s₁.setTop (mkF m 24 #[.val (.long vx), .second, .val (.long vy), .second, .val (.long (vx >>> ((32 : Int32) &&& 0x3f).toInt64)), .second, .val (.long (vx &&& (4294967295 : Int64))), .second, .val (.long (vy >>> ((32 : Int32) &&& 0x3f).toInt64)), .second, .unset, .unset, .unset, .unset, .unset, .unset, .unset, .unset, .unset, .unset] [(.long (vy &&& (4294967295 : Int64)))])) _
    refine XS.lstore X0.here hx rfl (hb hby d19_24) rfl (l' := #[.val (.long vx), .second, .val (.long vy), .second, .val (.long (vx >>> ((32 : Int32) &&& 0x3f).toInt64)), .second, .val (.long (vx &&& (4294967295 : Int64))), .second, .val (.long (vy >>> ((32 : Int32) &&& 0x3f).toInt64)), .second, .val (.long (vy &&& (4294967295 : Int64))), .second, .unset, .unset, .unset, .unset, .unset, .unset, .unset, .unset]) rfl ?_
    show Steps p.tables e below (s₁.setTop (mkF m 26 #[.val (.long vx), .second, .val (.long vy), .second, .val (.long (vx >>> ((32 : Int32) &&& 0x3f).toInt64)), .second, .val (.long (vx &&& (4294967295 : Int64))), .second, .val (.long (vy >>> ((32 : Int32) &&& 0x3f).toInt64)), .second, .val (.long (vy &&& (4294967295 : Int64))), .second, .unset, .unset, .unset, .unset, .unset, .unset, .unset, .unset] [])) _
    refine XS.lload X0.here hx rfl (hb hby d19_26) rfl ?_
    show Steps p.tables e below (s₁.setTop (mkF m 28 #[.val (.long vx), .second, .val (.long vy), .second, .val (.long (vx >>> ((32 : Int32) &&& 0x3f).toInt64)), .second, .val (.long (vx &&& (4294967295 : Int64))), .second, .val (.long (vy >>> ((32 : Int32) &&& 0x3f).toInt64)), .second, .val (.long (vy &&& (4294967295 : Int64))), .second, .unset, .unset, .unset, .unset, .unset, .unset, .unset, .unset] [(.long (vx &&& (4294967295 : Int64)))])) _
    refine XS.lload X0.here hx rfl (hb hby d19_28) rfl ?_
    show Steps p.tables e below (s₁.setTop (mkF m 30 #[.val (.long vx), .second, .val (.long vy), .second, .val (.long (vx >>> ((32 : Int32) &&& 0x3f).toInt64)), .second, .val (.long (vx &&& (4294967295 : Int64))), .second, .val (.long (vy >>> ((32 : Int32) &&& 0x3f).toInt64)), .second, .val (.long (vy &&& (4294967295 : Int64))), .second, .unset, .unset, .unset, .unset, .unset, .unset, .unset, .unset] [(.long (vy &&& (4294967295 : Int64))), (.long (vx &&& (4294967295 : Int64)))])) _
    refine XS.lmul X0.here hx rfl (hb hby d19_30) rfl ?_
    show Steps p.tables e below (s₁.setTop (mkF m 31 #[.val (.long vx), .second, .val (.long vy), .second, .val (.long (vx >>> ((32 : Int32) &&& 0x3f).toInt64)), .second, .val (.long (vx &&& (4294967295 : Int64))), .second, .val (.long (vy >>> ((32 : Int32) &&& 0x3f).toInt64)), .second, .val (.long (vy &&& (4294967295 : Int64))), .second, .unset, .unset, .unset, .unset, .unset, .unset, .unset, .unset] [(.long ((vx &&& (4294967295 : Int64)) * (vy &&& (4294967295 : Int64))))])) _
    refine XS.lstore X0.here hx rfl (hb hby d19_31) rfl (l' := #[.val (.long vx), .second, .val (.long vy), .second, .val (.long (vx >>> ((32 : Int32) &&& 0x3f).toInt64)), .second, .val (.long (vx &&& (4294967295 : Int64))), .second, .val (.long (vy >>> ((32 : Int32) &&& 0x3f).toInt64)), .second, .val (.long (vy &&& (4294967295 : Int64))), .second, .val (.long ((vx &&& (4294967295 : Int64)) * (vy &&& (4294967295 : Int64)))), .second, .unset, .unset, .unset, .unset, .unset, .unset]) rfl ?_
    show Steps p.tables e below (s₁.setTop (mkF m 33 #[.val (.long vx), .second, .val (.long vy), .second, .val (.long (vx >>> ((32 : Int32) &&& 0x3f).toInt64)), .second, .val (.long (vx &&& (4294967295 : Int64))), .second, .val (.long (vy >>> ((32 : Int32) &&& 0x3f).toInt64)), .second, .val (.long (vy &&& (4294967295 : Int64))), .second, .val (.long ((vx &&& (4294967295 : Int64)) * (vy &&& (4294967295 : Int64)))), .second, .unset, .unset, .unset, .unset, .unset, .unset] [])) _
    refine XS.lload X0.here hx rfl (hb hby d19_33) rfl ?_
    show Steps p.tables e below (s₁.setTop (mkF m 35 #[.val (.long vx), .second, .val (.long vy), .second, .val (.long (vx >>> ((32 : Int32) &&& 0x3f).toInt64)), .second, .val (.long (vx &&& (4294967295 : Int64))), .second, .val (.long (vy >>> ((32 : Int32) &&& 0x3f).toInt64)), .second, .val (.long (vy &&& (4294967295 : Int64))), .second, .val (.long ((vx &&& (4294967295 : Int64)) * (vy &&& (4294967295 : Int64)))), .second, .unset, .unset, .unset, .unset, .unset, .unset] [(.long (vx >>> ((32 : Int32) &&& 0x3f).toInt64))])) _
    refine XS.lload X0.here hx rfl (hb hby d19_35) rfl ?_
    show Steps p.tables e below (s₁.setTop (mkF m 37 #[.val (.long vx), .second, .val (.long vy), .second, .val (.long (vx >>> ((32 : Int32) &&& 0x3f).toInt64)), .second, .val (.long (vx &&& (4294967295 : Int64))), .second, .val (.long (vy >>> ((32 : Int32) &&& 0x3f).toInt64)), .second, .val (.long (vy &&& (4294967295 : Int64))), .second, .val (.long ((vx &&& (4294967295 : Int64)) * (vy &&& (4294967295 : Int64)))), .second, .unset, .unset, .unset, .unset, .unset, .unset] [(.long (vy &&& (4294967295 : Int64))), (.long (vx >>> ((32 : Int32) &&& 0x3f).toInt64))])) _
    refine XS.lmul X0.here hx rfl (hb hby d19_37) rfl ?_
    show Steps p.tables e below (s₁.setTop (mkF m 38 #[.val (.long vx), .second, .val (.long vy), .second, .val (.long (vx >>> ((32 : Int32) &&& 0x3f).toInt64)), .second, .val (.long (vx &&& (4294967295 : Int64))), .second, .val (.long (vy >>> ((32 : Int32) &&& 0x3f).toInt64)), .second, .val (.long (vy &&& (4294967295 : Int64))), .second, .val (.long ((vx &&& (4294967295 : Int64)) * (vy &&& (4294967295 : Int64)))), .second, .unset, .unset, .unset, .unset, .unset, .unset] [(.long ((vx >>> ((32 : Int32) &&& 0x3f).toInt64) * (vy &&& (4294967295 : Int64))))])) _
    refine XS.lload X0.here hx rfl (hb hby d19_38) rfl ?_
    show Steps p.tables e below (s₁.setTop (mkF m 40 #[.val (.long vx), .second, .val (.long vy), .second, .val (.long (vx >>> ((32 : Int32) &&& 0x3f).toInt64)), .second, .val (.long (vx &&& (4294967295 : Int64))), .second, .val (.long (vy >>> ((32 : Int32) &&& 0x3f).toInt64)), .second, .val (.long (vy &&& (4294967295 : Int64))), .second, .val (.long ((vx &&& (4294967295 : Int64)) * (vy &&& (4294967295 : Int64)))), .second, .unset, .unset, .unset, .unset, .unset, .unset] [(.long ((vx &&& (4294967295 : Int64)) * (vy &&& (4294967295 : Int64)))), (.long ((vx >>> ((32 : Int32) &&& 0x3f).toInt64) * (vy &&& (4294967295 : Int64))))])) _
    refine XS.bipush X0.here hx rfl (hb hby d19_40) ?_
    show Steps p.tables e below (s₁.setTop (mkF m 42 #[.val (.long vx), .second, .val (.long vy), .second, .val (.long (vx >>> ((32 : Int32) &&& 0x3f).toInt64)), .second, .val (.long (vx &&& (4294967295 : Int64))), .second, .val (.long (vy >>> ((32 : Int32) &&& 0x3f).toInt64)), .second, .val (.long (vy &&& (4294967295 : Int64))), .second, .val (.long ((vx &&& (4294967295 : Int64)) * (vy &&& (4294967295 : Int64)))), .second, .unset, .unset, .unset, .unset, .unset, .unset] [(.int (32 : Int32)), (.long ((vx &&& (4294967295 : Int64)) * (vy &&& (4294967295 : Int64)))), (.long ((vx >>> ((32 : Int32) &&& 0x3f).toInt64) * (vy &&& (4294967295 : Int64))))])) _
    refine XS.lushr X0.here hx rfl (hb hby d19_42) rfl ?_
    show Steps p.tables e below (s₁.setTop (mkF m 43 #[.val (.long vx), .second, .val (.long vy), .second, .val (.long (vx >>> ((32 : Int32) &&& 0x3f).toInt64)), .second, .val (.long (vx &&& (4294967295 : Int64))), .second, .val (.long (vy >>> ((32 : Int32) &&& 0x3f).toInt64)), .second, .val (.long (vy &&& (4294967295 : Int64))), .second, .val (.long ((vx &&& (4294967295 : Int64)) * (vy &&& (4294967295 : Int64)))), .second, .unset, .unset, .unset, .unset, .unset, .unset] [(.long ((((vx &&& (4294967295 : Int64)) * (vy &&& (4294967295 : Int64))).toUInt64 >>> ((32 : Int32) &&& 0x3f).toInt64.toUInt64).toInt64)), (.long ((vx >>> ((32 : Int32) &&& 0x3f).toInt64) * (vy &&& (4294967295 : Int64))))])) _
    refine XS.ladd X0.here hx rfl (hb hby d19_43) rfl ?_
    show Steps p.tables e below (s₁.setTop (mkF m 44 #[.val (.long vx), .second, .val (.long vy), .second, .val (.long (vx >>> ((32 : Int32) &&& 0x3f).toInt64)), .second, .val (.long (vx &&& (4294967295 : Int64))), .second, .val (.long (vy >>> ((32 : Int32) &&& 0x3f).toInt64)), .second, .val (.long (vy &&& (4294967295 : Int64))), .second, .val (.long ((vx &&& (4294967295 : Int64)) * (vy &&& (4294967295 : Int64)))), .second, .unset, .unset, .unset, .unset, .unset, .unset] [(.long (((vx >>> ((32 : Int32) &&& 0x3f).toInt64) * (vy &&& (4294967295 : Int64))) + ((((vx &&& (4294967295 : Int64)) * (vy &&& (4294967295 : Int64))).toUInt64 >>> ((32 : Int32) &&& 0x3f).toInt64.toUInt64).toInt64)))])) _
    refine XS.lstore X0.here hx rfl (hb hby d19_44) rfl (l' := #[.val (.long vx), .second, .val (.long vy), .second, .val (.long (vx >>> ((32 : Int32) &&& 0x3f).toInt64)), .second, .val (.long (vx &&& (4294967295 : Int64))), .second, .val (.long (vy >>> ((32 : Int32) &&& 0x3f).toInt64)), .second, .val (.long (vy &&& (4294967295 : Int64))), .second, .val (.long ((vx &&& (4294967295 : Int64)) * (vy &&& (4294967295 : Int64)))), .second, .val (.long (((vx >>> ((32 : Int32) &&& 0x3f).toInt64) * (vy &&& (4294967295 : Int64))) + ((((vx &&& (4294967295 : Int64)) * (vy &&& (4294967295 : Int64))).toUInt64 >>> ((32 : Int32) &&& 0x3f).toInt64.toUInt64).toInt64))), .second, .unset, .unset, .unset, .unset]) rfl ?_
    show Steps p.tables e below (s₁.setTop (mkF m 46 #[.val (.long vx), .second, .val (.long vy), .second, .val (.long (vx >>> ((32 : Int32) &&& 0x3f).toInt64)), .second, .val (.long (vx &&& (4294967295 : Int64))), .second, .val (.long (vy >>> ((32 : Int32) &&& 0x3f).toInt64)), .second, .val (.long (vy &&& (4294967295 : Int64))), .second, .val (.long ((vx &&& (4294967295 : Int64)) * (vy &&& (4294967295 : Int64)))), .second, .val (.long (((vx >>> ((32 : Int32) &&& 0x3f).toInt64) * (vy &&& (4294967295 : Int64))) + ((((vx &&& (4294967295 : Int64)) * (vy &&& (4294967295 : Int64))).toUInt64 >>> ((32 : Int32) &&& 0x3f).toInt64.toUInt64).toInt64))), .second, .unset, .unset, .unset, .unset] [])) _
    refine XS.lload X0.here hx rfl (hb hby d19_46) rfl ?_
    show Steps p.tables e below (s₁.setTop (mkF m 48 #[.val (.long vx), .second, .val (.long vy), .second, .val (.long (vx >>> ((32 : Int32) &&& 0x3f).toInt64)), .second, .val (.long (vx &&& (4294967295 : Int64))), .second, .val (.long (vy >>> ((32 : Int32) &&& 0x3f).toInt64)), .second, .val (.long (vy &&& (4294967295 : Int64))), .second, .val (.long ((vx &&& (4294967295 : Int64)) * (vy &&& (4294967295 : Int64)))), .second, .val (.long (((vx >>> ((32 : Int32) &&& 0x3f).toInt64) * (vy &&& (4294967295 : Int64))) + ((((vx &&& (4294967295 : Int64)) * (vy &&& (4294967295 : Int64))).toUInt64 >>> ((32 : Int32) &&& 0x3f).toInt64.toUInt64).toInt64))), .second, .unset, .unset, .unset, .unset] [(.long (((vx >>> ((32 : Int32) &&& 0x3f).toInt64) * (vy &&& (4294967295 : Int64))) + ((((vx &&& (4294967295 : Int64)) * (vy &&& (4294967295 : Int64))).toUInt64 >>> ((32 : Int32) &&& 0x3f).toInt64.toUInt64).toInt64)))])) _
    refine X0.ldc2J hx hown (mvT hZ (hw _ (List.mem_of_getElem? (i := 101) rfl))) (g := (mkF m 48 #[.val (.long vx), .second, .val (.long vy), .second, .val (.long (vx >>> ((32 : Int32) &&& 0x3f).toInt64)), .second, .val (.long (vx &&& (4294967295 : Int64))), .second, .val (.long (vy >>> ((32 : Int32) &&& 0x3f).toInt64)), .second, .val (.long (vy &&& (4294967295 : Int64))), .second, .val (.long ((vx &&& (4294967295 : Int64)) * (vy &&& (4294967295 : Int64)))), .second, .val (.long (((vx >>> ((32 : Int32) &&& 0x3f).toInt64) * (vy &&& (4294967295 : Int64))) + ((((vx &&& (4294967295 : Int64)) * (vy &&& (4294967295 : Int64))).toUInt64 >>> ((32 : Int32) &&& 0x3f).toInt64.toUInt64).toInt64))), .second, .unset, .unset, .unset, .unset] [(.long (((vx >>> ((32 : Int32) &&& 0x3f).toInt64) * (vy &&& (4294967295 : Int64))) + ((((vx &&& (4294967295 : Int64)) * (vy &&& (4294967295 : Int64))).toUInt64 >>> ((32 : Int32) &&& 0x3f).toInt64.toUInt64).toInt64)))])) rfl (hb hby d19_48) ?_
    show Steps p.tables e below (s₁.setTop (mkF m 51 #[.val (.long vx), .second, .val (.long vy), .second, .val (.long (vx >>> ((32 : Int32) &&& 0x3f).toInt64)), .second, .val (.long (vx &&& (4294967295 : Int64))), .second, .val (.long (vy >>> ((32 : Int32) &&& 0x3f).toInt64)), .second, .val (.long (vy &&& (4294967295 : Int64))), .second, .val (.long ((vx &&& (4294967295 : Int64)) * (vy &&& (4294967295 : Int64)))), .second, .val (.long (((vx >>> ((32 : Int32) &&& 0x3f).toInt64) * (vy &&& (4294967295 : Int64))) + ((((vx &&& (4294967295 : Int64)) * (vy &&& (4294967295 : Int64))).toUInt64 >>> ((32 : Int32) &&& 0x3f).toInt64.toUInt64).toInt64))), .second, .unset, .unset, .unset, .unset] [(.long (4294967295 : Int64)), (.long (((vx >>> ((32 : Int32) &&& 0x3f).toInt64) * (vy &&& (4294967295 : Int64))) + ((((vx &&& (4294967295 : Int64)) * (vy &&& (4294967295 : Int64))).toUInt64 >>> ((32 : Int32) &&& 0x3f).toInt64.toUInt64).toInt64)))])) _
    refine XS.land X0.here hx rfl (hb hby d19_51) rfl ?_
    show Steps p.tables e below (s₁.setTop (mkF m 52 #[.val (.long vx), .second, .val (.long vy), .second, .val (.long (vx >>> ((32 : Int32) &&& 0x3f).toInt64)), .second, .val (.long (vx &&& (4294967295 : Int64))), .second, .val (.long (vy >>> ((32 : Int32) &&& 0x3f).toInt64)), .second, .val (.long (vy &&& (4294967295 : Int64))), .second, .val (.long ((vx &&& (4294967295 : Int64)) * (vy &&& (4294967295 : Int64)))), .second, .val (.long (((vx >>> ((32 : Int32) &&& 0x3f).toInt64) * (vy &&& (4294967295 : Int64))) + ((((vx &&& (4294967295 : Int64)) * (vy &&& (4294967295 : Int64))).toUInt64 >>> ((32 : Int32) &&& 0x3f).toInt64.toUInt64).toInt64))), .second, .unset, .unset, .unset, .unset] [(.long ((((vx >>> ((32 : Int32) &&& 0x3f).toInt64) * (vy &&& (4294967295 : Int64))) + ((((vx &&& (4294967295 : Int64)) * (vy &&& (4294967295 : Int64))).toUInt64 >>> ((32 : Int32) &&& 0x3f).toInt64.toUInt64).toInt64)) &&& (4294967295 : Int64)))])) _
    refine XS.lstore X0.here hx rfl (hb hby d19_52) rfl (l' := #[.val (.long vx), .second, .val (.long vy), .second, .val (.long (vx >>> ((32 : Int32) &&& 0x3f).toInt64)), .second, .val (.long (vx &&& (4294967295 : Int64))), .second, .val (.long (vy >>> ((32 : Int32) &&& 0x3f).toInt64)), .second, .val (.long (vy &&& (4294967295 : Int64))), .second, .val (.long ((vx &&& (4294967295 : Int64)) * (vy &&& (4294967295 : Int64)))), .second, .val (.long (((vx >>> ((32 : Int32) &&& 0x3f).toInt64) * (vy &&& (4294967295 : Int64))) + ((((vx &&& (4294967295 : Int64)) * (vy &&& (4294967295 : Int64))).toUInt64 >>> ((32 : Int32) &&& 0x3f).toInt64.toUInt64).toInt64))), .second, .val (.long ((((vx >>> ((32 : Int32) &&& 0x3f).toInt64) * (vy &&& (4294967295 : Int64))) + ((((vx &&& (4294967295 : Int64)) * (vy &&& (4294967295 : Int64))).toUInt64 >>> ((32 : Int32) &&& 0x3f).toInt64.toUInt64).toInt64)) &&& (4294967295 : Int64))), .second, .unset, .unset]) rfl ?_
    show Steps p.tables e below (s₁.setTop (mkF m 54 #[.val (.long vx), .second, .val (.long vy), .second, .val (.long (vx >>> ((32 : Int32) &&& 0x3f).toInt64)), .second, .val (.long (vx &&& (4294967295 : Int64))), .second, .val (.long (vy >>> ((32 : Int32) &&& 0x3f).toInt64)), .second, .val (.long (vy &&& (4294967295 : Int64))), .second, .val (.long ((vx &&& (4294967295 : Int64)) * (vy &&& (4294967295 : Int64)))), .second, .val (.long (((vx >>> ((32 : Int32) &&& 0x3f).toInt64) * (vy &&& (4294967295 : Int64))) + ((((vx &&& (4294967295 : Int64)) * (vy &&& (4294967295 : Int64))).toUInt64 >>> ((32 : Int32) &&& 0x3f).toInt64.toUInt64).toInt64))), .second, .val (.long ((((vx >>> ((32 : Int32) &&& 0x3f).toInt64) * (vy &&& (4294967295 : Int64))) + ((((vx &&& (4294967295 : Int64)) * (vy &&& (4294967295 : Int64))).toUInt64 >>> ((32 : Int32) &&& 0x3f).toInt64.toUInt64).toInt64)) &&& (4294967295 : Int64))), .second, .unset, .unset] [])) _
    refine XS.lload X0.here hx rfl (hb hby d19_54) rfl ?_
    show Steps p.tables e below (s₁.setTop (mkF m 56 #[.val (.long vx), .second, .val (.long vy), .second, .val (.long (vx >>> ((32 : Int32) &&& 0x3f).toInt64)), .second, .val (.long (vx &&& (4294967295 : Int64))), .second, .val (.long (vy >>> ((32 : Int32) &&& 0x3f).toInt64)), .second, .val (.long (vy &&& (4294967295 : Int64))), .second, .val (.long ((vx &&& (4294967295 : Int64)) * (vy &&& (4294967295 : Int64)))), .second, .val (.long (((vx >>> ((32 : Int32) &&& 0x3f).toInt64) * (vy &&& (4294967295 : Int64))) + ((((vx &&& (4294967295 : Int64)) * (vy &&& (4294967295 : Int64))).toUInt64 >>> ((32 : Int32) &&& 0x3f).toInt64.toUInt64).toInt64))), .second, .val (.long ((((vx >>> ((32 : Int32) &&& 0x3f).toInt64) * (vy &&& (4294967295 : Int64))) + ((((vx &&& (4294967295 : Int64)) * (vy &&& (4294967295 : Int64))).toUInt64 >>> ((32 : Int32) &&& 0x3f).toInt64.toUInt64).toInt64)) &&& (4294967295 : Int64))), .second, .unset, .unset] [(.long (((vx >>> ((32 : Int32) &&& 0x3f).toInt64) * (vy &&& (4294967295 : Int64))) + ((((vx &&& (4294967295 : Int64)) * (vy &&& (4294967295 : Int64))).toUInt64 >>> ((32 : Int32) &&& 0x3f).toInt64.toUInt64).toInt64)))])) _
    refine XS.bipush X0.here hx rfl (hb hby d19_56) ?_
    show Steps p.tables e below (s₁.setTop (mkF m 58 #[.val (.long vx), .second, .val (.long vy), .second, .val (.long (vx >>> ((32 : Int32) &&& 0x3f).toInt64)), .second, .val (.long (vx &&& (4294967295 : Int64))), .second, .val (.long (vy >>> ((32 : Int32) &&& 0x3f).toInt64)), .second, .val (.long (vy &&& (4294967295 : Int64))), .second, .val (.long ((vx &&& (4294967295 : Int64)) * (vy &&& (4294967295 : Int64)))), .second, .val (.long (((vx >>> ((32 : Int32) &&& 0x3f).toInt64) * (vy &&& (4294967295 : Int64))) + ((((vx &&& (4294967295 : Int64)) * (vy &&& (4294967295 : Int64))).toUInt64 >>> ((32 : Int32) &&& 0x3f).toInt64.toUInt64).toInt64))), .second, .val (.long ((((vx >>> ((32 : Int32) &&& 0x3f).toInt64) * (vy &&& (4294967295 : Int64))) + ((((vx &&& (4294967295 : Int64)) * (vy &&& (4294967295 : Int64))).toUInt64 >>> ((32 : Int32) &&& 0x3f).toInt64.toUInt64).toInt64)) &&& (4294967295 : Int64))), .second, .unset, .unset] [(.int (32 : Int32)), (.long (((vx >>> ((32 : Int32) &&& 0x3f).toInt64) * (vy &&& (4294967295 : Int64))) + ((((vx &&& (4294967295 : Int64)) * (vy &&& (4294967295 : Int64))).toUInt64 >>> ((32 : Int32) &&& 0x3f).toInt64.toUInt64).toInt64)))])) _
    refine XS.lshr X0.here hx rfl (hb hby d19_58) rfl ?_
    show Steps p.tables e below (s₁.setTop (mkF m 59 #[.val (.long vx), .second, .val (.long vy), .second, .val (.long (vx >>> ((32 : Int32) &&& 0x3f).toInt64)), .second, .val (.long (vx &&& (4294967295 : Int64))), .second, .val (.long (vy >>> ((32 : Int32) &&& 0x3f).toInt64)), .second, .val (.long (vy &&& (4294967295 : Int64))), .second, .val (.long ((vx &&& (4294967295 : Int64)) * (vy &&& (4294967295 : Int64)))), .second, .val (.long (((vx >>> ((32 : Int32) &&& 0x3f).toInt64) * (vy &&& (4294967295 : Int64))) + ((((vx &&& (4294967295 : Int64)) * (vy &&& (4294967295 : Int64))).toUInt64 >>> ((32 : Int32) &&& 0x3f).toInt64.toUInt64).toInt64))), .second, .val (.long ((((vx >>> ((32 : Int32) &&& 0x3f).toInt64) * (vy &&& (4294967295 : Int64))) + ((((vx &&& (4294967295 : Int64)) * (vy &&& (4294967295 : Int64))).toUInt64 >>> ((32 : Int32) &&& 0x3f).toInt64.toUInt64).toInt64)) &&& (4294967295 : Int64))), .second, .unset, .unset] [(.long ((((vx >>> ((32 : Int32) &&& 0x3f).toInt64) * (vy &&& (4294967295 : Int64))) + ((((vx &&& (4294967295 : Int64)) * (vy &&& (4294967295 : Int64))).toUInt64 >>> ((32 : Int32) &&& 0x3f).toInt64.toUInt64).toInt64)) >>> ((32 : Int32) &&& 0x3f).toInt64))])) _
    refine XS.lstore X0.here hx rfl (hb hby d19_59) rfl (l' := #[.val (.long vx), .second, .val (.long vy), .second, .val (.long (vx >>> ((32 : Int32) &&& 0x3f).toInt64)), .second, .val (.long (vx &&& (4294967295 : Int64))), .second, .val (.long (vy >>> ((32 : Int32) &&& 0x3f).toInt64)), .second, .val (.long (vy &&& (4294967295 : Int64))), .second, .val (.long ((vx &&& (4294967295 : Int64)) * (vy &&& (4294967295 : Int64)))), .second, .val (.long (((vx >>> ((32 : Int32) &&& 0x3f).toInt64) * (vy &&& (4294967295 : Int64))) + ((((vx &&& (4294967295 : Int64)) * (vy &&& (4294967295 : Int64))).toUInt64 >>> ((32 : Int32) &&& 0x3f).toInt64.toUInt64).toInt64))), .second, .val (.long ((((vx >>> ((32 : Int32) &&& 0x3f).toInt64) * (vy &&& (4294967295 : Int64))) + ((((vx &&& (4294967295 : Int64)) * (vy &&& (4294967295 : Int64))).toUInt64 >>> ((32 : Int32) &&& 0x3f).toInt64.toUInt64).toInt64)) &&& (4294967295 : Int64))), .second, .val (.long ((((vx >>> ((32 : Int32) &&& 0x3f).toInt64) * (vy &&& (4294967295 : Int64))) + ((((vx &&& (4294967295 : Int64)) * (vy &&& (4294967295 : Int64))).toUInt64 >>> ((32 : Int32) &&& 0x3f).toInt64.toUInt64).toInt64)) >>> ((32 : Int32) &&& 0x3f).toInt64)), .second]) rfl ?_
    show Steps p.tables e below (s₁.setTop (mkF m 61 #[.val (.long vx), .second, .val (.long vy), .second, .val (.long (vx >>> ((32 : Int32) &&& 0x3f).toInt64)), .second, .val (.long (vx &&& (4294967295 : Int64))), .second, .val (.long (vy >>> ((32 : Int32) &&& 0x3f).toInt64)), .second, .val (.long (vy &&& (4294967295 : Int64))), .second, .val (.long ((vx &&& (4294967295 : Int64)) * (vy &&& (4294967295 : Int64)))), .second, .val (.long (((vx >>> ((32 : Int32) &&& 0x3f).toInt64) * (vy &&& (4294967295 : Int64))) + ((((vx &&& (4294967295 : Int64)) * (vy &&& (4294967295 : Int64))).toUInt64 >>> ((32 : Int32) &&& 0x3f).toInt64.toUInt64).toInt64))), .second, .val (.long ((((vx >>> ((32 : Int32) &&& 0x3f).toInt64) * (vy &&& (4294967295 : Int64))) + ((((vx &&& (4294967295 : Int64)) * (vy &&& (4294967295 : Int64))).toUInt64 >>> ((32 : Int32) &&& 0x3f).toInt64.toUInt64).toInt64)) &&& (4294967295 : Int64))), .second, .val (.long ((((vx >>> ((32 : Int32) &&& 0x3f).toInt64) * (vy &&& (4294967295 : Int64))) + ((((vx &&& (4294967295 : Int64)) * (vy &&& (4294967295 : Int64))).toUInt64 >>> ((32 : Int32) &&& 0x3f).toInt64.toUInt64).toInt64)) >>> ((32 : Int32) &&& 0x3f).toInt64)), .second] [])) _
    refine XS.lload X0.here hx rfl (hb hby d19_61) rfl ?_
    show Steps p.tables e below (s₁.setTop (mkF m 63 #[.val (.long vx), .second, .val (.long vy), .second, .val (.long (vx >>> ((32 : Int32) &&& 0x3f).toInt64)), .second, .val (.long (vx &&& (4294967295 : Int64))), .second, .val (.long (vy >>> ((32 : Int32) &&& 0x3f).toInt64)), .second, .val (.long (vy &&& (4294967295 : Int64))), .second, .val (.long ((vx &&& (4294967295 : Int64)) * (vy &&& (4294967295 : Int64)))), .second, .val (.long (((vx >>> ((32 : Int32) &&& 0x3f).toInt64) * (vy &&& (4294967295 : Int64))) + ((((vx &&& (4294967295 : Int64)) * (vy &&& (4294967295 : Int64))).toUInt64 >>> ((32 : Int32) &&& 0x3f).toInt64.toUInt64).toInt64))), .second, .val (.long ((((vx >>> ((32 : Int32) &&& 0x3f).toInt64) * (vy &&& (4294967295 : Int64))) + ((((vx &&& (4294967295 : Int64)) * (vy &&& (4294967295 : Int64))).toUInt64 >>> ((32 : Int32) &&& 0x3f).toInt64.toUInt64).toInt64)) &&& (4294967295 : Int64))), .second, .val (.long ((((vx >>> ((32 : Int32) &&& 0x3f).toInt64) * (vy &&& (4294967295 : Int64))) + ((((vx &&& (4294967295 : Int64)) * (vy &&& (4294967295 : Int64))).toUInt64 >>> ((32 : Int32) &&& 0x3f).toInt64.toUInt64).toInt64)) >>> ((32 : Int32) &&& 0x3f).toInt64)), .second] [(.long ((((vx >>> ((32 : Int32) &&& 0x3f).toInt64) * (vy &&& (4294967295 : Int64))) + ((((vx &&& (4294967295 : Int64)) * (vy &&& (4294967295 : Int64))).toUInt64 >>> ((32 : Int32) &&& 0x3f).toInt64.toUInt64).toInt64)) &&& (4294967295 : Int64)))])) _
    refine XS.lload X0.here hx rfl (hb hby d19_63) rfl ?_
    show Steps p.tables e below (s₁.setTop (mkF m 65 #[.val (.long vx), .second, .val (.long vy), .second, .val (.long (vx >>> ((32 : Int32) &&& 0x3f).toInt64)), .second, .val (.long (vx &&& (4294967295 : Int64))), .second, .val (.long (vy >>> ((32 : Int32) &&& 0x3f).toInt64)), .second, .val (.long (vy &&& (4294967295 : Int64))), .second, .val (.long ((vx &&& (4294967295 : Int64)) * (vy &&& (4294967295 : Int64)))), .second, .val (.long (((vx >>> ((32 : Int32) &&& 0x3f).toInt64) * (vy &&& (4294967295 : Int64))) + ((((vx &&& (4294967295 : Int64)) * (vy &&& (4294967295 : Int64))).toUInt64 >>> ((32 : Int32) &&& 0x3f).toInt64.toUInt64).toInt64))), .second, .val (.long ((((vx >>> ((32 : Int32) &&& 0x3f).toInt64) * (vy &&& (4294967295 : Int64))) + ((((vx &&& (4294967295 : Int64)) * (vy &&& (4294967295 : Int64))).toUInt64 >>> ((32 : Int32) &&& 0x3f).toInt64.toUInt64).toInt64)) &&& (4294967295 : Int64))), .second, .val (.long ((((vx >>> ((32 : Int32) &&& 0x3f).toInt64) * (vy &&& (4294967295 : Int64))) + ((((vx &&& (4294967295 : Int64)) * (vy &&& (4294967295 : Int64))).toUInt64 >>> ((32 : Int32) &&& 0x3f).toInt64.toUInt64).toInt64)) >>> ((32 : Int32) &&& 0x3f).toInt64)), .second] [(.long (vx &&& (4294967295 : Int64))), (.long ((((vx >>> ((32 : Int32) &&& 0x3f).toInt64) * (vy &&& (4294967295 : Int64))) + ((((vx &&& (4294967295 : Int64)) * (vy &&& (4294967295 : Int64))).toUInt64 >>> ((32 : Int32) &&& 0x3f).toInt64.toUInt64).toInt64)) &&& (4294967295 : Int64)))])) _
    refine XS.lload X0.here hx rfl (hb hby d19_65) rfl ?_
    show Steps p.tables e below (s₁.setTop (mkF m 67 #[.val (.long vx), .second, .val (.long vy), .second, .val (.long (vx >>> ((32 : Int32) &&& 0x3f).toInt64)), .second, .val (.long (vx &&& (4294967295 : Int64))), .second, .val (.long (vy >>> ((32 : Int32) &&& 0x3f).toInt64)), .second, .val (.long (vy &&& (4294967295 : Int64))), .second, .val (.long ((vx &&& (4294967295 : Int64)) * (vy &&& (4294967295 : Int64)))), .second, .val (.long (((vx >>> ((32 : Int32) &&& 0x3f).toInt64) * (vy &&& (4294967295 : Int64))) + ((((vx &&& (4294967295 : Int64)) * (vy &&& (4294967295 : Int64))).toUInt64 >>> ((32 : Int32) &&& 0x3f).toInt64.toUInt64).toInt64))), .second, .val (.long ((((vx >>> ((32 : Int32) &&& 0x3f).toInt64) * (vy &&& (4294967295 : Int64))) + ((((vx &&& (4294967295 : Int64)) * (vy &&& (4294967295 : Int64))).toUInt64 >>> ((32 : Int32) &&& 0x3f).toInt64.toUInt64).toInt64)) &&& (4294967295 : Int64))), .second, .val (.long ((((vx >>> ((32 : Int32) &&& 0x3f).toInt64) * (vy &&& (4294967295 : Int64))) + ((((vx &&& (4294967295 : Int64)) * (vy &&& (4294967295 : Int64))).toUInt64 >>> ((32 : Int32) &&& 0x3f).toInt64.toUInt64).toInt64)) >>> ((32 : Int32) &&& 0x3f).toInt64)), .second] [(.long (vy >>> ((32 : Int32) &&& 0x3f).toInt64)), (.long (vx &&& (4294967295 : Int64))), (.long ((((vx >>> ((32 : Int32) &&& 0x3f).toInt64) * (vy &&& (4294967295 : Int64))) + ((((vx &&& (4294967295 : Int64)) * (vy &&& (4294967295 : Int64))).toUInt64 >>> ((32 : Int32) &&& 0x3f).toInt64.toUInt64).toInt64)) &&& (4294967295 : Int64)))])) _
    refine XS.lmul X0.here hx rfl (hb hby d19_67) rfl ?_
    show Steps p.tables e below (s₁.setTop (mkF m 68 #[.val (.long vx), .second, .val (.long vy), .second, .val (.long (vx >>> ((32 : Int32) &&& 0x3f).toInt64)), .second, .val (.long (vx &&& (4294967295 : Int64))), .second, .val (.long (vy >>> ((32 : Int32) &&& 0x3f).toInt64)), .second, .val (.long (vy &&& (4294967295 : Int64))), .second, .val (.long ((vx &&& (4294967295 : Int64)) * (vy &&& (4294967295 : Int64)))), .second, .val (.long (((vx >>> ((32 : Int32) &&& 0x3f).toInt64) * (vy &&& (4294967295 : Int64))) + ((((vx &&& (4294967295 : Int64)) * (vy &&& (4294967295 : Int64))).toUInt64 >>> ((32 : Int32) &&& 0x3f).toInt64.toUInt64).toInt64))), .second, .val (.long ((((vx >>> ((32 : Int32) &&& 0x3f).toInt64) * (vy &&& (4294967295 : Int64))) + ((((vx &&& (4294967295 : Int64)) * (vy &&& (4294967295 : Int64))).toUInt64 >>> ((32 : Int32) &&& 0x3f).toInt64.toUInt64).toInt64)) &&& (4294967295 : Int64))), .second, .val (.long ((((vx >>> ((32 : Int32) &&& 0x3f).toInt64) * (vy &&& (4294967295 : Int64))) + ((((vx &&& (4294967295 : Int64)) * (vy &&& (4294967295 : Int64))).toUInt64 >>> ((32 : Int32) &&& 0x3f).toInt64.toUInt64).toInt64)) >>> ((32 : Int32) &&& 0x3f).toInt64)), .second] [(.long ((vx &&& (4294967295 : Int64)) * (vy >>> ((32 : Int32) &&& 0x3f).toInt64))), (.long ((((vx >>> ((32 : Int32) &&& 0x3f).toInt64) * (vy &&& (4294967295 : Int64))) + ((((vx &&& (4294967295 : Int64)) * (vy &&& (4294967295 : Int64))).toUInt64 >>> ((32 : Int32) &&& 0x3f).toInt64.toUInt64).toInt64)) &&& (4294967295 : Int64)))])) _
    refine XS.ladd X0.here hx rfl (hb hby d19_68) rfl ?_
    show Steps p.tables e below (s₁.setTop (mkF m 69 #[.val (.long vx), .second, .val (.long vy), .second, .val (.long (vx >>> ((32 : Int32) &&& 0x3f).toInt64)), .second, .val (.long (vx &&& (4294967295 : Int64))), .second, .val (.long (vy >>> ((32 : Int32) &&& 0x3f).toInt64)), .second, .val (.long (vy &&& (4294967295 : Int64))), .second, .val (.long ((vx &&& (4294967295 : Int64)) * (vy &&& (4294967295 : Int64)))), .second, .val (.long (((vx >>> ((32 : Int32) &&& 0x3f).toInt64) * (vy &&& (4294967295 : Int64))) + ((((vx &&& (4294967295 : Int64)) * (vy &&& (4294967295 : Int64))).toUInt64 >>> ((32 : Int32) &&& 0x3f).toInt64.toUInt64).toInt64))), .second, .val (.long ((((vx >>> ((32 : Int32) &&& 0x3f).toInt64) * (vy &&& (4294967295 : Int64))) + ((((vx &&& (4294967295 : Int64)) * (vy &&& (4294967295 : Int64))).toUInt64 >>> ((32 : Int32) &&& 0x3f).toInt64.toUInt64).toInt64)) &&& (4294967295 : Int64))), .second, .val (.long ((((vx >>> ((32 : Int32) &&& 0x3f).toInt64) * (vy &&& (4294967295 : Int64))) + ((((vx &&& (4294967295 : Int64)) * (vy &&& (4294967295 : Int64))).toUInt64 >>> ((32 : Int32) &&& 0x3f).toInt64.toUInt64).toInt64)) >>> ((32 : Int32) &&& 0x3f).toInt64)), .second] [(.long (((((vx >>> ((32 : Int32) &&& 0x3f).toInt64) * (vy &&& (4294967295 : Int64))) + ((((vx &&& (4294967295 : Int64)) * (vy &&& (4294967295 : Int64))).toUInt64 >>> ((32 : Int32) &&& 0x3f).toInt64.toUInt64).toInt64)) &&& (4294967295 : Int64)) + ((vx &&& (4294967295 : Int64)) * (vy >>> ((32 : Int32) &&& 0x3f).toInt64))))])) _
    refine XS.lstore X0.here hx rfl (hb hby d19_69) rfl (l' := #[.val (.long vx), .second, .val (.long vy), .second, .val (.long (vx >>> ((32 : Int32) &&& 0x3f).toInt64)), .second, .val (.long (vx &&& (4294967295 : Int64))), .second, .val (.long (vy >>> ((32 : Int32) &&& 0x3f).toInt64)), .second, .val (.long (vy &&& (4294967295 : Int64))), .second, .val (.long ((vx &&& (4294967295 : Int64)) * (vy &&& (4294967295 : Int64)))), .second, .val (.long (((vx >>> ((32 : Int32) &&& 0x3f).toInt64) * (vy &&& (4294967295 : Int64))) + ((((vx &&& (4294967295 : Int64)) * (vy &&& (4294967295 : Int64))).toUInt64 >>> ((32 : Int32) &&& 0x3f).toInt64.toUInt64).toInt64))), .second, .val (.long (((((vx >>> ((32 : Int32) &&& 0x3f).toInt64) * (vy &&& (4294967295 : Int64))) + ((((vx &&& (4294967295 : Int64)) * (vy &&& (4294967295 : Int64))).toUInt64 >>> ((32 : Int32) &&& 0x3f).toInt64.toUInt64).toInt64)) &&& (4294967295 : Int64)) + ((vx &&& (4294967295 : Int64)) * (vy >>> ((32 : Int32) &&& 0x3f).toInt64)))), .second, .val (.long ((((vx >>> ((32 : Int32) &&& 0x3f).toInt64) * (vy &&& (4294967295 : Int64))) + ((((vx &&& (4294967295 : Int64)) * (vy &&& (4294967295 : Int64))).toUInt64 >>> ((32 : Int32) &&& 0x3f).toInt64.toUInt64).toInt64)) >>> ((32 : Int32) &&& 0x3f).toInt64)), .second]) rfl ?_
    show Steps p.tables e below (s₁.setTop (mkF m 71 #[.val (.long vx), .second, .val (.long vy), .second, .val (.long (vx >>> ((32 : Int32) &&& 0x3f).toInt64)), .second, .val (.long (vx &&& (4294967295 : Int64))), .second, .val (.long (vy >>> ((32 : Int32) &&& 0x3f).toInt64)), .second, .val (.long (vy &&& (4294967295 : Int64))), .second, .val (.long ((vx &&& (4294967295 : Int64)) * (vy &&& (4294967295 : Int64)))), .second, .val (.long (((vx >>> ((32 : Int32) &&& 0x3f).toInt64) * (vy &&& (4294967295 : Int64))) + ((((vx &&& (4294967295 : Int64)) * (vy &&& (4294967295 : Int64))).toUInt64 >>> ((32 : Int32) &&& 0x3f).toInt64.toUInt64).toInt64))), .second, .val (.long (((((vx >>> ((32 : Int32) &&& 0x3f).toInt64) * (vy &&& (4294967295 : Int64))) + ((((vx &&& (4294967295 : Int64)) * (vy &&& (4294967295 : Int64))).toUInt64 >>> ((32 : Int32) &&& 0x3f).toInt64.toUInt64).toInt64)) &&& (4294967295 : Int64)) + ((vx &&& (4294967295 : Int64)) * (vy >>> ((32 : Int32) &&& 0x3f).toInt64)))), .second, .val (.long ((((vx >>> ((32 : Int32) &&& 0x3f).toInt64) * (vy &&& (4294967295 : Int64))) + ((((vx &&& (4294967295 : Int64)) * (vy &&& (4294967295 : Int64))).toUInt64 >>> ((32 : Int32) &&& 0x3f).toInt64.toUInt64).toInt64)) >>> ((32 : Int32) &&& 0x3f).toInt64)), .second] [])) _
    refine XS.lload X0.here hx rfl (hb hby d19_71) rfl ?_
    show Steps p.tables e below (s₁.setTop (mkF m 73 #[.val (.long vx), .second, .val (.long vy), .second, .val (.long (vx >>> ((32 : Int32) &&& 0x3f).toInt64)), .second, .val (.long (vx &&& (4294967295 : Int64))), .second, .val (.long (vy >>> ((32 : Int32) &&& 0x3f).toInt64)), .second, .val (.long (vy &&& (4294967295 : Int64))), .second, .val (.long ((vx &&& (4294967295 : Int64)) * (vy &&& (4294967295 : Int64)))), .second, .val (.long (((vx >>> ((32 : Int32) &&& 0x3f).toInt64) * (vy &&& (4294967295 : Int64))) + ((((vx &&& (4294967295 : Int64)) * (vy &&& (4294967295 : Int64))).toUInt64 >>> ((32 : Int32) &&& 0x3f).toInt64.toUInt64).toInt64))), .second, .val (.long (((((vx >>> ((32 : Int32) &&& 0x3f).toInt64) * (vy &&& (4294967295 : Int64))) + ((((vx &&& (4294967295 : Int64)) * (vy &&& (4294967295 : Int64))).toUInt64 >>> ((32 : Int32) &&& 0x3f).toInt64.toUInt64).toInt64)) &&& (4294967295 : Int64)) + ((vx &&& (4294967295 : Int64)) * (vy >>> ((32 : Int32) &&& 0x3f).toInt64)))), .second, .val (.long ((((vx >>> ((32 : Int32) &&& 0x3f).toInt64) * (vy &&& (4294967295 : Int64))) + ((((vx &&& (4294967295 : Int64)) * (vy &&& (4294967295 : Int64))).toUInt64 >>> ((32 : Int32) &&& 0x3f).toInt64.toUInt64).toInt64)) >>> ((32 : Int32) &&& 0x3f).toInt64)), .second] [(.long (vx >>> ((32 : Int32) &&& 0x3f).toInt64))])) _
    refine XS.lload X0.here hx rfl (hb hby d19_73) rfl ?_
    show Steps p.tables e below (s₁.setTop (mkF m 75 #[.val (.long vx), .second, .val (.long vy), .second, .val (.long (vx >>> ((32 : Int32) &&& 0x3f).toInt64)), .second, .val (.long (vx &&& (4294967295 : Int64))), .second, .val (.long (vy >>> ((32 : Int32) &&& 0x3f).toInt64)), .second, .val (.long (vy &&& (4294967295 : Int64))), .second, .val (.long ((vx &&& (4294967295 : Int64)) * (vy &&& (4294967295 : Int64)))), .second, .val (.long (((vx >>> ((32 : Int32) &&& 0x3f).toInt64) * (vy &&& (4294967295 : Int64))) + ((((vx &&& (4294967295 : Int64)) * (vy &&& (4294967295 : Int64))).toUInt64 >>> ((32 : Int32) &&& 0x3f).toInt64.toUInt64).toInt64))), .second, .val (.long (((((vx >>> ((32 : Int32) &&& 0x3f).toInt64) * (vy &&& (4294967295 : Int64))) + ((((vx &&& (4294967295 : Int64)) * (vy &&& (4294967295 : Int64))).toUInt64 >>> ((32 : Int32) &&& 0x3f).toInt64.toUInt64).toInt64)) &&& (4294967295 : Int64)) + ((vx &&& (4294967295 : Int64)) * (vy >>> ((32 : Int32) &&& 0x3f).toInt64)))), .second, .val (.long ((((vx >>> ((32 : Int32) &&& 0x3f).toInt64) * (vy &&& (4294967295 : Int64))) + ((((vx &&& (4294967295 : Int64)) * (vy &&& (4294967295 : Int64))).toUInt64 >>> ((32 : Int32) &&& 0x3f).toInt64.toUInt64).toInt64)) >>> ((32 : Int32) &&& 0x3f).toInt64)), .second] [(.long (vy >>> ((32 : Int32) &&& 0x3f).toInt64)), (.long (vx >>> ((32 : Int32) &&& 0x3f).toInt64))])) _
    refine XS.lmul X0.here hx rfl (hb hby d19_75) rfl ?_
    show Steps p.tables e below (s₁.setTop (mkF m 76 #[.val (.long vx), .second, .val (.long vy), .second, .val (.long (vx >>> ((32 : Int32) &&& 0x3f).toInt64)), .second, .val (.long (vx &&& (4294967295 : Int64))), .second, .val (.long (vy >>> ((32 : Int32) &&& 0x3f).toInt64)), .second, .val (.long (vy &&& (4294967295 : Int64))), .second, .val (.long ((vx &&& (4294967295 : Int64)) * (vy &&& (4294967295 : Int64)))), .second, .val (.long (((vx >>> ((32 : Int32) &&& 0x3f).toInt64) * (vy &&& (4294967295 : Int64))) + ((((vx &&& (4294967295 : Int64)) * (vy &&& (4294967295 : Int64))).toUInt64 >>> ((32 : Int32) &&& 0x3f).toInt64.toUInt64).toInt64))), .second, .val (.long (((((vx >>> ((32 : Int32) &&& 0x3f).toInt64) * (vy &&& (4294967295 : Int64))) + ((((vx &&& (4294967295 : Int64)) * (vy &&& (4294967295 : Int64))).toUInt64 >>> ((32 : Int32) &&& 0x3f).toInt64.toUInt64).toInt64)) &&& (4294967295 : Int64)) + ((vx &&& (4294967295 : Int64)) * (vy >>> ((32 : Int32) &&& 0x3f).toInt64)))), .second, .val (.long ((((vx >>> ((32 : Int32) &&& 0x3f).toInt64) * (vy &&& (4294967295 : Int64))) + ((((vx &&& (4294967295 : Int64)) * (vy &&& (4294967295 : Int64))).toUInt64 >>> ((32 : Int32) &&& 0x3f).toInt64.toUInt64).toInt64)) >>> ((32 : Int32) &&& 0x3f).toInt64)), .second] [(.long ((vx >>> ((32 : Int32) &&& 0x3f).toInt64) * (vy >>> ((32 : Int32) &&& 0x3f).toInt64)))])) _
    refine XS.lload X0.here hx rfl (hb hby d19_76) rfl ?_
    show Steps p.tables e below (s₁.setTop (mkF m 78 #[.val (.long vx), .second, .val (.long vy), .second, .val (.long (vx >>> ((32 : Int32) &&& 0x3f).toInt64)), .second, .val (.long (vx &&& (4294967295 : Int64))), .second, .val (.long (vy >>> ((32 : Int32) &&& 0x3f).toInt64)), .second, .val (.long (vy &&& (4294967295 : Int64))), .second, .val (.long ((vx &&& (4294967295 : Int64)) * (vy &&& (4294967295 : Int64)))), .second, .val (.long (((vx >>> ((32 : Int32) &&& 0x3f).toInt64) * (vy &&& (4294967295 : Int64))) + ((((vx &&& (4294967295 : Int64)) * (vy &&& (4294967295 : Int64))).toUInt64 >>> ((32 : Int32) &&& 0x3f).toInt64.toUInt64).toInt64))), .second, .val (.long (((((vx >>> ((32 : Int32) &&& 0x3f).toInt64) * (vy &&& (4294967295 : Int64))) + ((((vx &&& (4294967295 : Int64)) * (vy &&& (4294967295 : Int64))).toUInt64 >>> ((32 : Int32) &&& 0x3f).toInt64.toUInt64).toInt64)) &&& (4294967295 : Int64)) + ((vx &&& (4294967295 : Int64)) * (vy >>> ((32 : Int32) &&& 0x3f).toInt64)))), .second, .val (.long ((((vx >>> ((32 : Int32) &&& 0x3f).toInt64) * (vy &&& (4294967295 : Int64))) + ((((vx &&& (4294967295 : Int64)) * (vy &&& (4294967295 : Int64))).toUInt64 >>> ((32 : Int32) &&& 0x3f).toInt64.toUInt64).toInt64)) >>> ((32 : Int32) &&& 0x3f).toInt64)), .second] [(.long ((((vx >>> ((32 : Int32) &&& 0x3f).toInt64) * (vy &&& (4294967295 : Int64))) + ((((vx &&& (4294967295 : Int64)) * (vy &&& (4294967295 : Int64))).toUInt64 >>> ((32 : Int32) &&& 0x3f).toInt64.toUInt64).toInt64)) >>> ((32 : Int32) &&& 0x3f).toInt64)), (.long ((vx >>> ((32 : Int32) &&& 0x3f).toInt64) * (vy >>> ((32 : Int32) &&& 0x3f).toInt64)))])) _
    refine XS.ladd X0.here hx rfl (hb hby d19_78) rfl ?_
    show Steps p.tables e below (s₁.setTop (mkF m 79 #[.val (.long vx), .second, .val (.long vy), .second, .val (.long (vx >>> ((32 : Int32) &&& 0x3f).toInt64)), .second, .val (.long (vx &&& (4294967295 : Int64))), .second, .val (.long (vy >>> ((32 : Int32) &&& 0x3f).toInt64)), .second, .val (.long (vy &&& (4294967295 : Int64))), .second, .val (.long ((vx &&& (4294967295 : Int64)) * (vy &&& (4294967295 : Int64)))), .second, .val (.long (((vx >>> ((32 : Int32) &&& 0x3f).toInt64) * (vy &&& (4294967295 : Int64))) + ((((vx &&& (4294967295 : Int64)) * (vy &&& (4294967295 : Int64))).toUInt64 >>> ((32 : Int32) &&& 0x3f).toInt64.toUInt64).toInt64))), .second, .val (.long (((((vx >>> ((32 : Int32) &&& 0x3f).toInt64) * (vy &&& (4294967295 : Int64))) + ((((vx &&& (4294967295 : Int64)) * (vy &&& (4294967295 : Int64))).toUInt64 >>> ((32 : Int32) &&& 0x3f).toInt64.toUInt64).toInt64)) &&& (4294967295 : Int64)) + ((vx &&& (4294967295 : Int64)) * (vy >>> ((32 : Int32) &&& 0x3f).toInt64)))), .second, .val (.long ((((vx >>> ((32 : Int32) &&& 0x3f).toInt64) * (vy &&& (4294967295 : Int64))) + ((((vx &&& (4294967295 : Int64)) * (vy &&& (4294967295 : Int64))).toUInt64 >>> ((32 : Int32) &&& 0x3f).toInt64.toUInt64).toInt64)) >>> ((32 : Int32) &&& 0x3f).toInt64)), .second] [(.long (((vx >>> ((32 : Int32) &&& 0x3f).toInt64) * (vy >>> ((32 : Int32) &&& 0x3f).toInt64)) + ((((vx >>> ((32 : Int32) &&& 0x3f).toInt64) * (vy &&& (4294967295 : Int64))) + ((((vx &&& (4294967295 : Int64)) * (vy &&& (4294967295 : Int64))).toUInt64 >>> ((32 : Int32) &&& 0x3f).toInt64.toUInt64).toInt64)) >>> ((32 : Int32) &&& 0x3f).toInt64)))])) _
    refine XS.lload X0.here hx rfl (hb hby d19_79) rfl ?_
    show Steps p.tables e below (s₁.setTop (mkF m 81 #[.val (.long vx), .second, .val (.long vy), .second, .val (.long (vx >>> ((32 : Int32) &&& 0x3f).toInt64)), .second, .val (.long (vx &&& (4294967295 : Int64))), .second, .val (.long (vy >>> ((32 : Int32) &&& 0x3f).toInt64)), .second, .val (.long (vy &&& (4294967295 : Int64))), .second, .val (.long ((vx &&& (4294967295 : Int64)) * (vy &&& (4294967295 : Int64)))), .second, .val (.long (((vx >>> ((32 : Int32) &&& 0x3f).toInt64) * (vy &&& (4294967295 : Int64))) + ((((vx &&& (4294967295 : Int64)) * (vy &&& (4294967295 : Int64))).toUInt64 >>> ((32 : Int32) &&& 0x3f).toInt64.toUInt64).toInt64))), .second, .val (.long (((((vx >>> ((32 : Int32) &&& 0x3f).toInt64) * (vy &&& (4294967295 : Int64))) + ((((vx &&& (4294967295 : Int64)) * (vy &&& (4294967295 : Int64))).toUInt64 >>> ((32 : Int32) &&& 0x3f).toInt64.toUInt64).toInt64)) &&& (4294967295 : Int64)) + ((vx &&& (4294967295 : Int64)) * (vy >>> ((32 : Int32) &&& 0x3f).toInt64)))), .second, .val (.long ((((vx >>> ((32 : Int32) &&& 0x3f).toInt64) * (vy &&& (4294967295 : Int64))) + ((((vx &&& (4294967295 : Int64)) * (vy &&& (4294967295 : Int64))).toUInt64 >>> ((32 : Int32) &&& 0x3f).toInt64.toUInt64).toInt64)) >>> ((32 : Int32) &&& 0x3f).toInt64)), .second] [(.long (((((vx >>> ((32 : Int32) &&& 0x3f).toInt64) * (vy &&& (4294967295 : Int64))) + ((((vx &&& (4294967295 : Int64)) * (vy &&& (4294967295 : Int64))).toUInt64 >>> ((32 : Int32) &&& 0x3f).toInt64.toUInt64).toInt64)) &&& (4294967295 : Int64)) + ((vx &&& (4294967295 : Int64)) * (vy >>> ((32 : Int32) &&& 0x3f).toInt64)))), (.long (((vx >>> ((32 : Int32) &&& 0x3f).toInt64) * (vy >>> ((32 : Int32) &&& 0x3f).toInt64)) + ((((vx >>> ((32 : Int32) &&& 0x3f).toInt64) * (vy &&& (4294967295 : Int64))) + ((((vx &&& (4294967295 : Int64)) * (vy &&& (4294967295 : Int64))).toUInt64 >>> ((32 : Int32) &&& 0x3f).toInt64.toUInt64).toInt64)) >>> ((32 : Int32) &&& 0x3f).toInt64)))])) _
    refine XS.bipush X0.here hx rfl (hb hby d19_81) ?_
    show Steps p.tables e below (s₁.setTop (mkF m 83 #[.val (.long vx), .second, .val (.long vy), .second, .val (.long (vx >>> ((32 : Int32) &&& 0x3f).toInt64)), .second, .val (.long (vx &&& (4294967295 : Int64))), .second, .val (.long (vy >>> ((32 : Int32) &&& 0x3f).toInt64)), .second, .val (.long (vy &&& (4294967295 : Int64))), .second, .val (.long ((vx &&& (4294967295 : Int64)) * (vy &&& (4294967295 : Int64)))), .second, .val (.long (((vx >>> ((32 : Int32) &&& 0x3f).toInt64) * (vy &&& (4294967295 : Int64))) + ((((vx &&& (4294967295 : Int64)) * (vy &&& (4294967295 : Int64))).toUInt64 >>> ((32 : Int32) &&& 0x3f).toInt64.toUInt64).toInt64))), .second, .val (.long (((((vx >>> ((32 : Int32) &&& 0x3f).toInt64) * (vy &&& (4294967295 : Int64))) + ((((vx &&& (4294967295 : Int64)) * (vy &&& (4294967295 : Int64))).toUInt64 >>> ((32 : Int32) &&& 0x3f).toInt64.toUInt64).toInt64)) &&& (4294967295 : Int64)) + ((vx &&& (4294967295 : Int64)) * (vy >>> ((32 : Int32) &&& 0x3f).toInt64)))), .second, .val (.long ((((vx >>> ((32 : Int32) &&& 0x3f).toInt64) * (vy &&& (4294967295 : Int64))) + ((((vx &&& (4294967295 : Int64)) * (vy &&& (4294967295 : Int64))).toUInt64 >>> ((32 : Int32) &&& 0x3f).toInt64.toUInt64).toInt64)) >>> ((32 : Int32) &&& 0x3f).toInt64)), .second] [(.int (32 : Int32)), (.long (((((vx >>> ((32 : Int32) &&& 0x3f).toInt64) * (vy &&& (4294967295 : Int64))) + ((((vx &&& (4294967295 : Int64)) * (vy &&& (4294967295 : Int64))).toUInt64 >>> ((32 : Int32) &&& 0x3f).toInt64.toUInt64).toInt64)) &&& (4294967295 : Int64)) + ((vx &&& (4294967295 : Int64)) * (vy >>> ((32 : Int32) &&& 0x3f).toInt64)))), (.long (((vx >>> ((32 : Int32) &&& 0x3f).toInt64) * (vy >>> ((32 : Int32) &&& 0x3f).toInt64)) + ((((vx >>> ((32 : Int32) &&& 0x3f).toInt64) * (vy &&& (4294967295 : Int64))) + ((((vx &&& (4294967295 : Int64)) * (vy &&& (4294967295 : Int64))).toUInt64 >>> ((32 : Int32) &&& 0x3f).toInt64.toUInt64).toInt64)) >>> ((32 : Int32) &&& 0x3f).toInt64)))])) _
    refine XS.lshr X0.here hx rfl (hb hby d19_83) rfl ?_
    show Steps p.tables e below (s₁.setTop (mkF m 84 #[.val (.long vx), .second, .val (.long vy), .second, .val (.long (vx >>> ((32 : Int32) &&& 0x3f).toInt64)), .second, .val (.long (vx &&& (4294967295 : Int64))), .second, .val (.long (vy >>> ((32 : Int32) &&& 0x3f).toInt64)), .second, .val (.long (vy &&& (4294967295 : Int64))), .second, .val (.long ((vx &&& (4294967295 : Int64)) * (vy &&& (4294967295 : Int64)))), .second, .val (.long (((vx >>> ((32 : Int32) &&& 0x3f).toInt64) * (vy &&& (4294967295 : Int64))) + ((((vx &&& (4294967295 : Int64)) * (vy &&& (4294967295 : Int64))).toUInt64 >>> ((32 : Int32) &&& 0x3f).toInt64.toUInt64).toInt64))), .second, .val (.long (((((vx >>> ((32 : Int32) &&& 0x3f).toInt64) * (vy &&& (4294967295 : Int64))) + ((((vx &&& (4294967295 : Int64)) * (vy &&& (4294967295 : Int64))).toUInt64 >>> ((32 : Int32) &&& 0x3f).toInt64.toUInt64).toInt64)) &&& (4294967295 : Int64)) + ((vx &&& (4294967295 : Int64)) * (vy >>> ((32 : Int32) &&& 0x3f).toInt64)))), .second, .val (.long ((((vx >>> ((32 : Int32) &&& 0x3f).toInt64) * (vy &&& (4294967295 : Int64))) + ((((vx &&& (4294967295 : Int64)) * (vy &&& (4294967295 : Int64))).toUInt64 >>> ((32 : Int32) &&& 0x3f).toInt64.toUInt64).toInt64)) >>> ((32 : Int32) &&& 0x3f).toInt64)), .second] [(.long ((((((vx >>> ((32 : Int32) &&& 0x3f).toInt64) * (vy &&& (4294967295 : Int64))) + ((((vx &&& (4294967295 : Int64)) * (vy &&& (4294967295 : Int64))).toUInt64 >>> ((32 : Int32) &&& 0x3f).toInt64.toUInt64).toInt64)) &&& (4294967295 : Int64)) + ((vx &&& (4294967295 : Int64)) * (vy >>> ((32 : Int32) &&& 0x3f).toInt64))) >>> ((32 : Int32) &&& 0x3f).toInt64)), (.long (((vx >>> ((32 : Int32) &&& 0x3f).toInt64) * (vy >>> ((32 : Int32) &&& 0x3f).toInt64)) + ((((vx >>> ((32 : Int32) &&& 0x3f).toInt64) * (vy &&& (4294967295 : Int64))) + ((((vx &&& (4294967295 : Int64)) * (vy &&& (4294967295 : Int64))).toUInt64 >>> ((32 : Int32) &&& 0x3f).toInt64.toUInt64).toInt64)) >>> ((32 : Int32) &&& 0x3f).toInt64)))])) _
    refine XS.ladd X0.here hx rfl (hb hby d19_84) rfl ?_
    show Steps p.tables e below (s₁.setTop (mkF m 85 #[.val (.long vx), .second, .val (.long vy), .second, .val (.long (vx >>> ((32 : Int32) &&& 0x3f).toInt64)), .second, .val (.long (vx &&& (4294967295 : Int64))), .second, .val (.long (vy >>> ((32 : Int32) &&& 0x3f).toInt64)), .second, .val (.long (vy &&& (4294967295 : Int64))), .second, .val (.long ((vx &&& (4294967295 : Int64)) * (vy &&& (4294967295 : Int64)))), .second, .val (.long (((vx >>> ((32 : Int32) &&& 0x3f).toInt64) * (vy &&& (4294967295 : Int64))) + ((((vx &&& (4294967295 : Int64)) * (vy &&& (4294967295 : Int64))).toUInt64 >>> ((32 : Int32) &&& 0x3f).toInt64.toUInt64).toInt64))), .second, .val (.long (((((vx >>> ((32 : Int32) &&& 0x3f).toInt64) * (vy &&& (4294967295 : Int64))) + ((((vx &&& (4294967295 : Int64)) * (vy &&& (4294967295 : Int64))).toUInt64 >>> ((32 : Int32) &&& 0x3f).toInt64.toUInt64).toInt64)) &&& (4294967295 : Int64)) + ((vx &&& (4294967295 : Int64)) * (vy >>> ((32 : Int32) &&& 0x3f).toInt64)))), .second, .val (.long ((((vx >>> ((32 : Int32) &&& 0x3f).toInt64) * (vy &&& (4294967295 : Int64))) + ((((vx &&& (4294967295 : Int64)) * (vy &&& (4294967295 : Int64))).toUInt64 >>> ((32 : Int32) &&& 0x3f).toInt64.toUInt64).toInt64)) >>> ((32 : Int32) &&& 0x3f).toInt64)), .second] [(.long ((((vx >>> ((32 : Int32) &&& 0x3f).toInt64) * (vy >>> ((32 : Int32) &&& 0x3f).toInt64)) + ((((vx >>> ((32 : Int32) &&& 0x3f).toInt64) * (vy &&& (4294967295 : Int64))) + ((((vx &&& (4294967295 : Int64)) * (vy &&& (4294967295 : Int64))).toUInt64 >>> ((32 : Int32) &&& 0x3f).toInt64.toUInt64).toInt64)) >>> ((32 : Int32) &&& 0x3f).toInt64)) + ((((((vx >>> ((32 : Int32) &&& 0x3f).toInt64) * (vy &&& (4294967295 : Int64))) + ((((vx &&& (4294967295 : Int64)) * (vy &&& (4294967295 : Int64))).toUInt64 >>> ((32 : Int32) &&& 0x3f).toInt64.toUInt64).toInt64)) &&& (4294967295 : Int64)) + ((vx &&& (4294967295 : Int64)) * (vy >>> ((32 : Int32) &&& 0x3f).toInt64))) >>> ((32 : Int32) &&& 0x3f).toInt64)))])) _
    exact retOut X0 hx (t := .long) (i := .lreturn) Bd.returns rfl (Or.inr (Or.inl ⟨rfl, rfl, _, rfl⟩)) (hb hby d19_85) hr
  ·
    show Q19 Z vx vy h0 n0 _ s₁.heap _
    rw [e0]
    have hv : ((((vx >>> ((32 : Int32) &&& 0x3f).toInt64) * (vy >>> ((32 : Int32) &&& 0x3f).toInt64)) + ((((vx >>> ((32 : Int32) &&& 0x3f).toInt64) * (vy &&& (4294967295 : Int64))) + ((((vx &&& (4294967295 : Int64)) * (vy &&& (4294967295 : Int64))).toUInt64 >>> ((32 : Int32) &&& 0x3f).toInt64.toUInt64).toInt64)) >>> ((32 : Int32) &&& 0x3f).toInt64)) + ((((((vx >>> ((32 : Int32) &&& 0x3f).toInt64) * (vy &&& (4294967295 : Int64))) + ((((vx &&& (4294967295 : Int64)) * (vy &&& (4294967295 : Int64))).toUInt64 >>> ((32 : Int32) &&& 0x3f).toInt64.toUInt64).toInt64)) &&& (4294967295 : Int64)) + ((vx &&& (4294967295 : Int64)) * (vy >>> ((32 : Int32) &&& 0x3f).toInt64))) >>> ((32 : Int32) &&& 0x3f).toInt64)) = (own_mh vx vy) := by rw [own_mh]
    exact ⟨(congrArg (fun z => some (Value.long z)) hv), N0, rfl⟩
theorem d18_0 : decode prog_6_method_9_code 0 = .ok (.lload_n 0, 1) := by decide +kernel
theorem d18_1 : decode prog_6_method_9_code 1 = .ok (.lload_n 2, 1) := by decide +kernel
theorem pd_0 : parseMethodDescriptor "(JJ)J" = some ⟨[.long, .long], some .long⟩ := by decide +kernel
theorem d18_2 : decode prog_6_method_9_code 2 = .ok (.invokestatic 78, 3) := by decide +kernel
theorem d18_5 : decode prog_6_method_9_code 5 = .ok (.lload_n 0, 1) := by decide +kernel
theorem d18_6 : decode prog_6_method_9_code 6 = .ok (.bipush 63, 2) := by decide +kernel
theorem d18_8 : decode prog_6_method_9_code 8 = .ok (.lshr, 1) := by decide +kernel
theorem d18_9 : decode prog_6_method_9_code 9 = .ok (.lload_n 2, 1) := by decide +kernel
theorem d18_10 : decode prog_6_method_9_code 10 = .ok (.land, 1) := by decide +kernel
theorem d18_11 : decode prog_6_method_9_code 11 = .ok (.ladd, 1) := by decide +kernel
theorem d18_12 : decode prog_6_method_9_code 12 = .ok (.lload_n 2, 1) := by decide +kernel
theorem d18_13 : decode prog_6_method_9_code 13 = .ok (.bipush 63, 2) := by decide +kernel
theorem d18_15 : decode prog_6_method_9_code 15 = .ok (.lshr, 1) := by decide +kernel
theorem d18_16 : decode prog_6_method_9_code 16 = .ok (.lload_n 0, 1) := by decide +kernel
theorem d18_17 : decode prog_6_method_9_code 17 = .ok (.land, 1) := by decide +kernel
theorem d18_18 : decode prog_6_method_9_code 18 = .ok (.ladd, 1) := by decide +kernel
theorem d18_19 : decode prog_6_method_9_code 19 = .ok (.lreturn, 1) := by decide +kernel
theorem pn_117 : plainName "com/example/paniere/paniere/CompactDecimal" = true := by first | (simp [plainName, overriddenIn]; done) | decide +kernel
theorem ef_rm18 (m : MethodId) (x0 : Int64) (x1 : Int64) : entryFrame m #[(.long x0), (.long x1)] 4 = mkF m 0 #[.val (.long x0), .second, .val (.long x1), .second] [] := by first | (simp [entryFrame, mkF, argsToLocals, Value.category]; done) | rfl
def own_um (vx : Int64) (vy : Int64) : Int64 := (((own_mh vx vy) + ((vx >>> ((63 : Int32) &&& 0x3f).toInt64) &&& vy)) + ((vy >>> ((63 : Int32) &&& 0x3f).toInt64) &&& vx))
def Q18 (Z : State) (vx : Int64) (vy : Int64) (h0 : Heap) (n0 : Nat) (v : Option Value) (h : Heap) (L : List Loc) : Prop := v = some (.long (own_um vx vy)) ∧ Fr n0 L ∧ h = h0
set_option maxRecDepth 65536 in
set_option maxHeartbeats 40000000 in
theorem rm18 (l : Launch) (Z : State) (a0 : Array Value) (hw : ∀ d ∈ tables_1, d.before a0 Z = true) (ws : List Jvm.Cond) (vx : Int64) (vy : Int64) (h0 : Heap) (n0 : Nat) (Z0 : n0 ≤ h0.size) :
    MetFree l (⟨"com/example/paniere/paniere/CompactDecimal", "unsignedMultiplyHigh", "(JJ)J"⟩ : MethodName) (head1 (Jvm.Cond.code (⟨"com/example/paniere/paniere/CompactDecimal", "unsignedMultiplyHigh", "(JJ)J"⟩ : MethodName) prog_6_method_9_code 4 (some .long) :: ws) ({ frames := 1, cells := 0, slots := 0, locals := 31 } : Room)) (fun a U => a = #[(.long vx), (.long vy)] ∧ Z.Warmed39 U.vm ∧ U.heap = h0) (fun _ _ _ _ _ => True) (fun _ U o U' => ∃ v L, o = .returned v ∧ Q18 Z vx vy h0 n0 v U'.heap L ∧ FrameEnd U o U' L ({ frames := 1, cells := 0, slots := 0, locals := 31 } : Room).cells ({ frames := 1, cells := 0, slots := 0, locals := 31 } : Room).slots) := by
  refine MetFree.of_bodySF (plainFor_of_name pn_117) hisR ?_
  intro p e s m args below meth c s₁ Bd hml0 hP hK
  obtain ⟨rfl, hZ, hh⟩ := hP
  have hx := Bd.exec
  have hby := Bd.bytes
  have hml : c.maxLocals = 4 := hml0
  have hown : s.vm.findClass "com/example/paniere/paniere/CompactDecimal" = some m.cls := findClass_of_methodNamed Bd.named
  have hnm := (name_of_methodNamed Bd.named Bd.method).1
  have X0 : Stand p l e ({ frames := 1, cells := 0, slots := 0, locals := 31 } : Room) s m #[(.long vx), (.long vy)] below meth c s₁ [] 0 0 := Stand.of_body Bd
  have e0 : s₁.heap = h0 := by rw [← hh, Bd.state]; rfl
  have N0 := Fr.nil n0
  have pre0 : ∀ t, Steps p.tables e below (s₁.setTop (mkF m 0 #[.val (.long vx), .second, .val (.long vy), .second] [])) t → Steps p.tables e below (s₁.setTop (entryFrame m #[(.long vx), (.long vy)] 4)) t := fun t k => castTop (ef_rm18 m vx vy) k
  obtain ⟨_, _, ⟨T1, L1, k1, n1⟩, -, X1, ⟨Lc1, hQ1, l1, y1, z1⟩, st1⟩ := Jvm.LawKit.callS X0 hx (y := (⟨"java/lang/Math", "multiplyHigh", "(JJ)J"⟩ : MethodName)) hown (mvT hZ (hw _ (List.mem_of_getElem? (i := 98) rfl))) (mvT hZ (hw _ (List.mem_of_getElem? (i := 99) rfl))) (mvT hZ (hw _ (List.mem_of_getElem? (i := 92) rfl))) (mvT hZ (hw _ (List.mem_of_getElem? (i := 100) rfl))) (by decide) (backOf (W := 0) (rm19 l Z a0 hw [] vx vy  h0 n0 Z0 ) hZ (hw _ (List.mem_of_getElem? (i := 100) rfl)) (hw _ (List.mem_of_getElem? (i := 92) rfl)) (by decide) (by decide)) (g := (mkF m 2 #[.val (.long vx), .second, .val (.long vy), .second] [(.long vy), (.long vx)])) rfl (by rw [hml]; rfl) (argsL := [(.long vx), (.long vy)]) (rest := []) (lenOf pd_0 rfl) rfl (by show 2 * 0 + _ ≤ _; exact Nat.le_of_eq rfl) (hb hby d18_2) (fun _ _ => ⟨rfl, e0, (by decide : 0 + 0 ≤ _), (by decide : 0 + 0 ≤ _)⟩)
  dsimp only [Pt.U, Pt.locs, Pt.cells, Pt.slots] at X1 l1 y1 z1 st1 hQ1
  obtain rfl : k1 = 0 := y1; obtain rfl : n1 = 0 := z1
  obtain ⟨rfl, N1q, e1q⟩ := hQ1
  have N1 : Fr n0 L1 := Eq.mpr (congrArg (Fr n0) l1) (Fr.app N0 N1q)
  obtain ⟨fs, hr, hrun, hended, hW, hsame⟩ := X1.leave (v := some (.long (((own_mh vx vy) + ((vx >>> ((63 : Int32) &&& 0x3f).toInt64) &&& vy)) + ((vy >>> ((63 : Int32) &&& 0x3f).toInt64) &&& vx)))) (fun h => by rw [Bd.returns] at h; cases h) (hlocks := BodyLoose.notSynchronized Bd)
  refine ⟨_, _, pre0 _ ?_, hrun, hended, _, _, rfl, ?_, ⟨_, rfl⟩, hW, hsame.mono (by decide) (by decide)⟩
  ·
    show Steps p.tables e below (s₁.setTop (mkF m 0 #[.val (.long vx), .second, .val (.long vy), .second] [])) _
    refine XS.lloadN X0.here hx rfl (hb hby d18_0) rfl ?_
    show Steps p.tables e below (s₁.setTop (mkF m 1 #[.val (.long vx), .second, .val (.long vy), .second] [(.long vx)])) _
    refine XS.lloadN X0.here hx rfl (hb hby d18_1) rfl ?_
    show Steps p.tables e below (s₁.setTop (mkF m 2 #[.val (.long vx), .second, .val (.long vy), .second] [(.long vy), (.long vx)])) _
    refine st1 _ ?_
    show Steps p.tables e below (T1.setTop (mkF m 5 #[.val (.long vx), .second, .val (.long vy), .second] [(.long (own_mh vx vy))])) _
    refine XS.lloadN X1.here hx rfl (hb hby d18_5) rfl ?_
    show Steps p.tables e below (T1.setTop (mkF m 6 #[.val (.long vx), .second, .val (.long vy), .second] [(.long vx), (.long (own_mh vx vy))])) _
    refine XS.bipush X1.here hx rfl (hb hby d18_6) ?_
    show Steps p.tables e below (T1.setTop (mkF m 8 #[.val (.long vx), .second, .val (.long vy), .second] [(.int (63 : Int32)), (.long vx), (.long (own_mh vx vy))])) _
    refine XS.lshr X1.here hx rfl (hb hby d18_8) rfl ?_
    show Steps p.tables e below (T1.setTop (mkF m 9 #[.val (.long vx), .second, .val (.long vy), .second] [(.long (vx >>> ((63 : Int32) &&& 0x3f).toInt64)), (.long (own_mh vx vy))])) _
    refine XS.lloadN X1.here hx rfl (hb hby d18_9) rfl ?_
    show Steps p.tables e below (T1.setTop (mkF m 10 #[.val (.long vx), .second, .val (.long vy), .second] [(.long vy), (.long (vx >>> ((63 : Int32) &&& 0x3f).toInt64)), (.long (own_mh vx vy))])) _
    refine XS.land X1.here hx rfl (hb hby d18_10) rfl ?_
    show Steps p.tables e below (T1.setTop (mkF m 11 #[.val (.long vx), .second, .val (.long vy), .second] [(.long ((vx >>> ((63 : Int32) &&& 0x3f).toInt64) &&& vy)), (.long (own_mh vx vy))])) _
    refine XS.ladd X1.here hx rfl (hb hby d18_11) rfl ?_
    show Steps p.tables e below (T1.setTop (mkF m 12 #[.val (.long vx), .second, .val (.long vy), .second] [(.long ((own_mh vx vy) + ((vx >>> ((63 : Int32) &&& 0x3f).toInt64) &&& vy)))])) _
    refine XS.lloadN X1.here hx rfl (hb hby d18_12) rfl ?_
    show Steps p.tables e below (T1.setTop (mkF m 13 #[.val (.long vx), .second, .val (.long vy), .second] [(.long vy), (.long ((own_mh vx vy) + ((vx >>> ((63 : Int32) &&& 0x3f).toInt64) &&& vy)))])) _
    refine XS.bipush X1.here hx rfl (hb hby d18_13) ?_
    show Steps p.tables e below (T1.setTop (mkF m 15 #[.val (.long vx), .second, .val (.long vy), .second] [(.int (63 : Int32)), (.long vy), (.long ((own_mh vx vy) + ((vx >>> ((63 : Int32) &&& 0x3f).toInt64) &&& vy)))])) _
    refine XS.lshr X1.here hx rfl (hb hby d18_15) rfl ?_
    show Steps p.tables e below (T1.setTop (mkF m 16 #[.val (.long vx), .second, .val (.long vy), .second] [(.long (vy >>> ((63 : Int32) &&& 0x3f).toInt64)), (.long ((own_mh vx vy) + ((vx >>> ((63 : Int32) &&& 0x3f).toInt64) &&& vy)))])) _
    refine XS.lloadN X1.here hx rfl (hb hby d18_16) rfl ?_
    show Steps p.tables e below (T1.setTop (mkF m 17 #[.val (.long vx), .second, .val (.long vy), .second] [(.long vx), (.long (vy >>> ((63 : Int32) &&& 0x3f).toInt64)), (.long ((own_mh vx vy) + ((vx >>> ((63 : Int32) &&& 0x3f).toInt64) &&& vy)))])) _
    refine XS.land X1.here hx rfl (hb hby d18_17) rfl ?_
    show Steps p.tables e below (T1.setTop (mkF m 18 #[.val (.long vx), .second, .val (.long vy), .second] [(.long ((vy >>> ((63 : Int32) &&& 0x3f).toInt64) &&& vx)), (.long ((own_mh vx vy) + ((vx >>> ((63 : Int32) &&& 0x3f).toInt64) &&& vy)))])) _
    refine XS.ladd X1.here hx rfl (hb hby d18_18) rfl ?_
    show Steps p.tables e below (T1.setTop (mkF m 19 #[.val (.long vx), .second, .val (.long vy), .second] [(.long (((own_mh vx vy) + ((vx >>> ((63 : Int32) &&& 0x3f).toInt64) &&& vy)) + ((vy >>> ((63 : Int32) &&& 0x3f).toInt64) &&& vx)))])) _
    exact retOut X1 hx (t := .long) (i := .lreturn) Bd.returns rfl (Or.inr (Or.inl ⟨rfl, rfl, _, rfl⟩)) (hb hby d18_19) hr
  ·
    show Q18 Z vx vy h0 n0 _ T1.heap _
    rw [e1q]
    have hv : (((own_mh vx vy) + ((vx >>> ((63 : Int32) &&& 0x3f).toInt64) &&& vy)) + ((vy >>> ((63 : Int32) &&& 0x3f).toInt64) &&& vx)) = (own_um vx vy) := by rw [own_um]
    exact ⟨(congrArg (fun z => some (Value.long z)) hv), N1, rfl⟩
theorem d22_0 : decode jdk_35_method_42_code 0 = .ok (.lload_n 0, 1) := by decide +kernel
theorem d22_1 : decode jdk_35_method_42_code 1 = .ok (.lload_n 2, 1) := by decide +kernel
theorem d22_2 : decode jdk_35_method_42_code 2 = .ok (.lcmp, 1) := by decide +kernel
theorem d22_3 : decode jdk_35_method_42_code 3 = .ok (.ifCond .ge 7, 3) := by decide +kernel
theorem d22_6 : decode jdk_35_method_42_code 6 = .ok (.iconst (-1), 1) := by decide +kernel
theorem d22_7 : decode jdk_35_method_42_code 7 = .ok (.goto 14, 3) := by decide +kernel
theorem d22_21 : decode jdk_35_method_42_code 21 = .ok (.ireturn, 1) := by decide +kernel
theorem d22_10 : decode jdk_35_method_42_code 10 = .ok (.lload_n 0, 1) := by decide +kernel
theorem d22_11 : decode jdk_35_method_42_code 11 = .ok (.lload_n 2, 1) := by decide +kernel
theorem d22_12 : decode jdk_35_method_42_code 12 = .ok (.lcmp, 1) := by decide +kernel
theorem d22_13 : decode jdk_35_method_42_code 13 = .ok (.ifCond .ne 7, 3) := by decide +kernel
theorem d22_16 : decode jdk_35_method_42_code 16 = .ok (.iconst 0, 1) := by decide +kernel
theorem d22_17 : decode jdk_35_method_42_code 17 = .ok (.goto 4, 3) := by decide +kernel
theorem d22_20 : decode jdk_35_method_42_code 20 = .ok (.iconst 1, 1) := by decide +kernel
theorem pn_132 : plainName "java/lang/Long" = true := by first | (simp [plainName, overriddenIn]; done) | decide +kernel
theorem ef_rm22 (m : MethodId) (x0 : Int64) (x1 : Int64) : entryFrame m #[(.long x0), (.long x1)] 4 = mkF m 0 #[.val (.long x0), .second, .val (.long x1), .second] [] := by first | (simp [entryFrame, mkF, argsToLocals, Value.category]; done) | rfl
def own_cm (vx : Int64) (vy : Int64) : Int32 := (if vx < vy then (-1 : Int32) else (if vx = vy then (0 : Int32) else (1 : Int32)))
def Q22 (Z : State) (vx : Int64) (vy : Int64) (h0 : Heap) (n0 : Nat) (v : Option Value) (h : Heap) (L : List Loc) : Prop := v = some (.int (own_cm vx vy)) ∧ Fr n0 L ∧ h = h0
set_option maxRecDepth 65536 in
set_option maxHeartbeats 40000000 in
theorem rm22 (l : Launch) (Z : State) (a0 : Array Value) (hw : ∀ d ∈ tables_1, d.before a0 Z = true) (ws : List Jvm.Cond) (vx : Int64) (vy : Int64) (h0 : Heap) (n0 : Nat) (Z0 : n0 ≤ h0.size) :
    MetFree l (⟨"java/lang/Long", "compare", "(JJ)I"⟩ : MethodName) (head1 (Jvm.Cond.code (⟨"java/lang/Long", "compare", "(JJ)I"⟩ : MethodName) jdk_35_method_42_code 4 (some .int) :: ws) ({ frames := 0, cells := 0, slots := 0, locals := 0 } : Room)) (fun a U => a = #[(.long vx), (.long vy)] ∧ Z.Warmed39 U.vm ∧ U.heap = h0) (fun _ _ _ _ _ => True) (fun _ U o U' => ∃ v L, o = .returned v ∧ Q22 Z vx vy h0 n0 v U'.heap L ∧ FrameEnd U o U' L ({ frames := 0, cells := 0, slots := 0, locals := 0 } : Room).cells ({ frames := 0, cells := 0, slots := 0, locals := 0 } : Room).slots) := by
  refine MetFree.of_bodySF (plainFor_of_name pn_132) hisR ?_
  intro p e s m args below meth c s₁ Bd hml0 hP hK
  obtain ⟨rfl, hZ, hh⟩ := hP
  have hx := Bd.exec
  have hby := Bd.bytes
  have hml : c.maxLocals = 4 := hml0
  have hown : s.vm.findClass "java/lang/Long" = some m.cls := findClass_of_methodNamed Bd.named
  have hnm := (name_of_methodNamed Bd.named Bd.method).1
  have X0 : Stand p l e ({ frames := 0, cells := 0, slots := 0, locals := 0 } : Room) s m #[(.long vx), (.long vy)] below meth c s₁ [] 0 0 := Stand.of_body Bd
  have e0 : s₁.heap = h0 := by rw [← hh, Bd.state]; rfl
  have N0 := Fr.nil n0
  have pre0 : ∀ t, Steps p.tables e below (s₁.setTop (mkF m 0 #[.val (.long vx), .second, .val (.long vy), .second] [])) t → Steps p.tables e below (s₁.setTop (entryFrame m #[(.long vx), (.long vy)] 4)) t := fun t k => castTop (ef_rm22 m vx vy) k
  have pre1 : ∀ t, Steps p.tables e below (s₁.setTop (mkF m 3 #[.val (.long vx), .second, .val (.long vy), .second] [(.int (lcmpW vx vy))])) t → Steps p.tables e below (s₁.setTop (entryFrame m #[(.long vx), (.long vy)] 4)) t := by
    intro t kt
    refine pre0 t ?_
    show Steps p.tables e below (s₁.setTop (mkF m 0 #[.val (.long vx), .second, .val (.long vy), .second] [])) _
    refine XS.lloadN X0.here hx rfl (hb hby d22_0) rfl ?_
    show Steps p.tables e below (s₁.setTop (mkF m 1 #[.val (.long vx), .second, .val (.long vy), .second] [(.long vx)])) _
    refine XS.lloadN X0.here hx rfl (hb hby d22_1) rfl ?_
    show Steps p.tables e below (s₁.setTop (mkF m 2 #[.val (.long vx), .second, .val (.long vy), .second] [(.long vy), (.long vx)])) _
    refine XS.lcmp X0.here hx rfl (hb hby d22_2) rfl ?_
    exact kt
  by_cases hc2 : vx < vy
  ·
    obtain ⟨fs, hr, hrun, hended, hW, hsame⟩ := X0.leave (v := some (.int (-1 : Int32))) (fun h => by rw [Bd.returns] at h; cases h) (hlocks := BodyLoose.notSynchronized Bd)
    refine ⟨_, _, pre1 _ ?_, hrun, hended, _, _, rfl, ?_, ⟨_, rfl⟩, hW, hsame.mono (by decide) (by decide)⟩
    ·
      show Steps p.tables e below (s₁.setTop (mkF m 3 #[.val (.long vx), .second, .val (.long vy), .second] [(.int (lcmpW vx vy))])) _
      refine XS.ifNo X0.here hx rfl (hb hby d22_3) rfl ((if0 _ _).trans (tlt (((lw_lt _ _).mpr hc2) : (lcmpW vx vy) < (0 : Int32))).2.1) ?_
      show Steps p.tables e below (s₁.setTop (mkF m 6 #[.val (.long vx), .second, .val (.long vy), .second] [])) _
      refine XS.iconst X0.here hx rfl (hb hby d22_6) ?_
      show Steps p.tables e below (s₁.setTop (mkF m 7 #[.val (.long vx), .second, .val (.long vy), .second] [(.int (-1 : Int32))])) _
      refine XS.goto X0.here hx rfl (pc0 := 7) (pc' := 21) rfl (hb hby d22_7) (by decide) (by decide) ?_
      show Steps p.tables e below (s₁.setTop (mkF m 21 #[.val (.long vx), .second, .val (.long vy), .second] [(.int (-1 : Int32))])) _
      exact retOut X0 hx (t := .int) (i := .ireturn) Bd.returns rfl (Or.inl ⟨rfl, Or.inl rfl, _, rfl⟩) (hb hby d22_21) hr
    ·
      show Q22 Z vx vy h0 n0 _ s₁.heap _
      rw [e0]
      have hv : (-1 : Int32) = (own_cm vx vy) := by rw [own_cm, if_pos hc2]
      exact ⟨(congrArg (fun z => some (Value.int z)) hv), N0, rfl⟩
  ·
    have pre3 : ∀ t, Steps p.tables e below (s₁.setTop (mkF m 13 #[.val (.long vx), .second, .val (.long vy), .second] [(.int (lcmpW vx vy))])) t → Steps p.tables e below (s₁.setTop (entryFrame m #[(.long vx), (.long vy)] 4)) t := by
      intro t kt
      refine pre1 t ?_
      show Steps p.tables e below (s₁.setTop (mkF m 3 #[.val (.long vx), .second, .val (.long vy), .second] [(.int (lcmpW vx vy))])) _
      refine XS.ifYes X0.here hx rfl (pc0 := 3) (pc' := 10) rfl (hb hby d22_3) rfl ((if0 _ _).trans (flt ((fun q => hc2 ((lw_lt _ _).mp q)) : ¬ ((lcmpW vx vy) < (0 : Int32)))).2.1) (by decide) (by decide) ?_
      show Steps p.tables e below (s₁.setTop (mkF m 10 #[.val (.long vx), .second, .val (.long vy), .second] [])) _
      refine XS.lloadN X0.here hx rfl (hb hby d22_10) rfl ?_
      show Steps p.tables e below (s₁.setTop (mkF m 11 #[.val (.long vx), .second, .val (.long vy), .second] [(.long vx)])) _
      refine XS.lloadN X0.here hx rfl (hb hby d22_11) rfl ?_
      show Steps p.tables e below (s₁.setTop (mkF m 12 #[.val (.long vx), .second, .val (.long vy), .second] [(.long vy), (.long vx)])) _
      refine XS.lcmp X0.here hx rfl (hb hby d22_12) rfl ?_
      exact kt
    by_cases hc4 : vx = vy
    ·
      obtain ⟨fs, hr, hrun, hended, hW, hsame⟩ := X0.leave (v := some (.int (0 : Int32))) (fun h => by rw [Bd.returns] at h; cases h) (hlocks := BodyLoose.notSynchronized Bd)
      refine ⟨_, _, pre3 _ ?_, hrun, hended, _, _, rfl, ?_, ⟨_, rfl⟩, hW, hsame.mono (by decide) (by decide)⟩
      ·
        show Steps p.tables e below (s₁.setTop (mkF m 13 #[.val (.long vx), .second, .val (.long vy), .second] [(.int (lcmpW vx vy))])) _
        refine XS.ifNo X0.here hx rfl (hb hby d22_13) rfl ((if0 _ _).trans (teq (((lw_eq _ _).mpr hc4) : (lcmpW vx vy) = (0 : Int32))).2) ?_
        show Steps p.tables e below (s₁.setTop (mkF m 16 #[.val (.long vx), .second, .val (.long vy), .second] [])) _
        refine XS.iconst X0.here hx rfl (hb hby d22_16) ?_
        show Steps p.tables e below (s₁.setTop (mkF m 17 #[.val (.long vx), .second, .val (.long vy), .second] [(.int (0 : Int32))])) _
        refine XS.goto X0.here hx rfl (pc0 := 17) (pc' := 21) rfl (hb hby d22_17) (by decide) (by decide) ?_
        show Steps p.tables e below (s₁.setTop (mkF m 21 #[.val (.long vx), .second, .val (.long vy), .second] [(.int (0 : Int32))])) _
        exact retOut X0 hx (t := .int) (i := .ireturn) Bd.returns rfl (Or.inl ⟨rfl, Or.inl rfl, _, rfl⟩) (hb hby d22_21) hr
      ·
        show Q22 Z vx vy h0 n0 _ s₁.heap _
        rw [e0]
        have hv : (0 : Int32) = (own_cm vx vy) := by rw [own_cm, if_neg hc2, if_pos hc4]
        exact ⟨(congrArg (fun z => some (Value.int z)) hv), N0, rfl⟩
    ·
      obtain ⟨fs, hr, hrun, hended, hW, hsame⟩ := X0.leave (v := some (.int (1 : Int32))) (fun h => by rw [Bd.returns] at h; cases h) (hlocks := BodyLoose.notSynchronized Bd)
      refine ⟨_, _, pre3 _ ?_, hrun, hended, _, _, rfl, ?_, ⟨_, rfl⟩, hW, hsame.mono (by decide) (by decide)⟩
      ·
        show Steps p.tables e below (s₁.setTop (mkF m 13 #[.val (.long vx), .second, .val (.long vy), .second] [(.int (lcmpW vx vy))])) _
        refine XS.ifYes X0.here hx rfl (pc0 := 13) (pc' := 20) rfl (hb hby d22_13) rfl ((if0 _ _).trans (feq ((fun q => hc4 ((lw_eq _ _).mp q)) : ¬ ((lcmpW vx vy) = (0 : Int32)))).2) (by decide) (by decide) ?_
        show Steps p.tables e below (s₁.setTop (mkF m 20 #[.val (.long vx), .second, .val (.long vy), .second] [])) _
        refine XS.iconst X0.here hx rfl (hb hby d22_20) ?_
        show Steps p.tables e below (s₁.setTop (mkF m 21 #[.val (.long vx), .second, .val (.long vy), .second] [(.int (1 : Int32))])) _
        exact retOut X0 hx (t := .int) (i := .ireturn) Bd.returns rfl (Or.inl ⟨rfl, Or.inl rfl, _, rfl⟩) (hb hby d22_21) hr
      ·
        show Q22 Z vx vy h0 n0 _ s₁.heap _
        rw [e0]
        have hv : (1 : Int32) = (own_cm vx vy) := by rw [own_cm, if_neg hc2, if_neg hc4]
        exact ⟨(congrArg (fun z => some (Value.int z)) hv), N0, rfl⟩
theorem d21_0 : decode jdk_35_method_43_code 0 = .ok (.lload_n 0, 1) := by decide +kernel
theorem d21_1 : decode jdk_35_method_43_code 1 = .ok (.ldc2_w 168, 3) := by decide +kernel
theorem d21_4 : decode jdk_35_method_43_code 4 = .ok (.ladd, 1) := by decide +kernel
theorem d21_5 : decode jdk_35_method_43_code 5 = .ok (.lload_n 2, 1) := by decide +kernel
theorem d21_6 : decode jdk_35_method_43_code 6 = .ok (.ldc2_w 168, 3) := by decide +kernel
theorem d21_9 : decode jdk_35_method_43_code 9 = .ok (.ladd, 1) := by decide +kernel
theorem pd_1 : parseMethodDescriptor "(JJ)I" = some ⟨[.long, .long], some .int⟩ := by decide +kernel
theorem d21_10 : decode jdk_35_method_43_code 10 = .ok (.invokestatic 302, 3) := by decide +kernel
theorem d21_13 : decode jdk_35_method_43_code 13 = .ok (.ireturn, 1) := by decide +kernel
theorem ef_rm21 (m : MethodId) (x0 : Int64) (x1 : Int64) : entryFrame m #[(.long x0), (.long x1)] 4 = mkF m 0 #[.val (.long x0), .second, .val (.long x1), .second] [] := by first | (simp [entryFrame, mkF, argsToLocals, Value.category]; done) | rfl
def own_cu (vx : Int64) (vy : Int64) : Int32 := (own_cm (vx + (-9223372036854775808 : Int64)) (vy + (-9223372036854775808 : Int64)))
def Q21 (Z : State) (vx : Int64) (vy : Int64) (h0 : Heap) (n0 : Nat) (v : Option Value) (h : Heap) (L : List Loc) : Prop := v = some (.int (own_cu vx vy)) ∧ Fr n0 L ∧ h = h0
set_option maxRecDepth 65536 in
set_option maxHeartbeats 40000000 in
theorem rm21 (l : Launch) (Z : State) (a0 : Array Value) (hw : ∀ d ∈ tables_1, d.before a0 Z = true) (ws : List Jvm.Cond) (vx : Int64) (vy : Int64) (h0 : Heap) (n0 : Nat) (Z0 : n0 ≤ h0.size) :
    MetFree l (⟨"java/lang/Long", "compareUnsigned", "(JJ)I"⟩ : MethodName) (head1 (Jvm.Cond.code (⟨"java/lang/Long", "compareUnsigned", "(JJ)I"⟩ : MethodName) jdk_35_method_43_code 4 (some .int) :: ws) ({ frames := 1, cells := 0, slots := 0, locals := 15 } : Room)) (fun a U => a = #[(.long vx), (.long vy)] ∧ Z.Warmed39 U.vm ∧ U.heap = h0) (fun _ _ _ _ _ => True) (fun _ U o U' => ∃ v L, o = .returned v ∧ Q21 Z vx vy h0 n0 v U'.heap L ∧ FrameEnd U o U' L ({ frames := 1, cells := 0, slots := 0, locals := 15 } : Room).cells ({ frames := 1, cells := 0, slots := 0, locals := 15 } : Room).slots) := by
  refine MetFree.of_bodySF (plainFor_of_name pn_132) hisR ?_
  intro p e s m args below meth c s₁ Bd hml0 hP hK
  obtain ⟨rfl, hZ, hh⟩ := hP
  have hx := Bd.exec
  have hby := Bd.bytes
  have hml : c.maxLocals = 4 := hml0
  have hown : s.vm.findClass "java/lang/Long" = some m.cls := findClass_of_methodNamed Bd.named
  have hnm := (name_of_methodNamed Bd.named Bd.method).1
  have X0 : Stand p l e ({ frames := 1, cells := 0, slots := 0, locals := 15 } : Room) s m #[(.long vx), (.long vy)] below meth c s₁ [] 0 0 := Stand.of_body Bd
  have e0 : s₁.heap = h0 := by rw [← hh, Bd.state]; rfl
  have N0 := Fr.nil n0
  have pre0 : ∀ t, Steps p.tables e below (s₁.setTop (mkF m 0 #[.val (.long vx), .second, .val (.long vy), .second] [])) t → Steps p.tables e below (s₁.setTop (entryFrame m #[(.long vx), (.long vy)] 4)) t := fun t k => castTop (ef_rm21 m vx vy) k
  obtain ⟨_, _, ⟨T1, L1, k1, n1⟩, -, X1, ⟨Lc1, hQ1, l1, y1, z1⟩, st1⟩ := Jvm.LawKit.callS X0 hx (y := (⟨"java/lang/Long", "compare", "(JJ)I"⟩ : MethodName)) hown (mvT hZ (hw _ (List.mem_of_getElem? (i := 110) rfl))) (mvT hZ (hw _ (List.mem_of_getElem? (i := 111) rfl))) (mvT hZ (hw _ (List.mem_of_getElem? (i := 107) rfl))) (mvT hZ (hw _ (List.mem_of_getElem? (i := 112) rfl))) (by decide) (backOf (W := 0) (rm22 l Z a0 hw [] (vx + (-9223372036854775808 : Int64)) (vy + (-9223372036854775808 : Int64))  h0 n0 Z0 ) hZ (hw _ (List.mem_of_getElem? (i := 112) rfl)) (hw _ (List.mem_of_getElem? (i := 107) rfl)) (by decide) (by decide)) (g := (mkF m 10 #[.val (.long vx), .second, .val (.long vy), .second] [(.long (vy + (-9223372036854775808 : Int64))), (.long (vx + (-9223372036854775808 : Int64)))])) rfl (by rw [hml]; rfl) (argsL := [(.long (vx + (-9223372036854775808 : Int64))), (.long (vy + (-9223372036854775808 : Int64)))]) (rest := []) (lenOf pd_1 rfl) rfl (by show 2 * 0 + _ ≤ _; exact Nat.le_of_eq rfl) (hb hby d21_10) (fun _ _ => ⟨rfl, e0, (by decide : 0 + 0 ≤ _), (by decide : 0 + 0 ≤ _)⟩)
  dsimp only [Pt.U, Pt.locs, Pt.cells, Pt.slots] at X1 l1 y1 z1 st1 hQ1
  obtain rfl : k1 = 0 := y1; obtain rfl : n1 = 0 := z1
  obtain ⟨rfl, N1q, e1q⟩ := hQ1
  have N1 : Fr n0 L1 := Eq.mpr (congrArg (Fr n0) l1) (Fr.app N0 N1q)
  obtain ⟨fs, hr, hrun, hended, hW, hsame⟩ := X1.leave (v := some (.int (own_cm (vx + (-9223372036854775808 : Int64)) (vy + (-9223372036854775808 : Int64))))) (fun h => by rw [Bd.returns] at h; cases h) (hlocks := BodyLoose.notSynchronized Bd)
  refine ⟨_, _, pre0 _ ?_, hrun, hended, _, _, rfl, ?_, ⟨_, rfl⟩, hW, hsame.mono (by decide) (by decide)⟩
  ·
    show Steps p.tables e below (s₁.setTop (mkF m 0 #[.val (.long vx), .second, .val (.long vy), .second] [])) _
    refine XS.lloadN X0.here hx rfl (hb hby d21_0) rfl ?_
    show Steps p.tables e below (s₁.setTop (mkF m 1 #[.val (.long vx), .second, .val (.long vy), .second] [(.long vx)])) _
    refine X0.ldc2J hx hown (mvT hZ (hw _ (List.mem_of_getElem? (i := 109) rfl))) (g := (mkF m 1 #[.val (.long vx), .second, .val (.long vy), .second] [(.long vx)])) rfl (hb hby d21_1) ?_
    show Steps p.tables e below (s₁.setTop (mkF m 4 #[.val (.long vx), .second, .val (.long vy), .second] [(.long (-9223372036854775808 : Int64)), (.long vx)])) _
    refine XS.ladd X0.here hx rfl (hb hby d21_4) rfl ?_
    show Steps p.tables e below (s₁.setTop (mkF m 5 #[.val (.long vx), .second, .val (.long vy), .second] [(.long (vx + (-9223372036854775808 : Int64)))])) _
    refine XS.lloadN X0.here hx rfl (hb hby d21_5) rfl ?_
    show Steps p.tables e below (s₁.setTop (mkF m 6 #[.val (.long vx), .second, .val (.long vy), .second] [(.long vy), (.long (vx + (-9223372036854775808 : Int64)))])) _
    refine X0.ldc2J hx hown (mvT hZ (hw _ (List.mem_of_getElem? (i := 109) rfl))) (g := (mkF m 6 #[.val (.long vx), .second, .val (.long vy), .second] [(.long vy), (.long (vx + (-9223372036854775808 : Int64)))])) rfl (hb hby d21_6) ?_
    show Steps p.tables e below (s₁.setTop (mkF m 9 #[.val (.long vx), .second, .val (.long vy), .second] [(.long (-9223372036854775808 : Int64)), (.long vy), (.long (vx + (-9223372036854775808 : Int64)))])) _
    refine XS.ladd X0.here hx rfl (hb hby d21_9) rfl ?_
    show Steps p.tables e below (s₁.setTop (mkF m 10 #[.val (.long vx), .second, .val (.long vy), .second] [(.long (vy + (-9223372036854775808 : Int64))), (.long (vx + (-9223372036854775808 : Int64)))])) _
    refine st1 _ ?_
    show Steps p.tables e below (T1.setTop (mkF m 13 #[.val (.long vx), .second, .val (.long vy), .second] [(.int (own_cm (vx + (-9223372036854775808 : Int64)) (vy + (-9223372036854775808 : Int64))))])) _
    exact retOut X1 hx (t := .int) (i := .ireturn) Bd.returns rfl (Or.inl ⟨rfl, Or.inl rfl, _, rfl⟩) (hb hby d21_13) hr
  ·
    show Q21 Z vx vy h0 n0 _ T1.heap _
    rw [e1q]
    have hv : (own_cm (vx + (-9223372036854775808 : Int64)) (vy + (-9223372036854775808 : Int64))) = (own_cu vx vy) := by rw [own_cu]
    exact ⟨(congrArg (fun z => some (Value.int z)) hv), N1, rfl⟩
theorem d20_0 : decode prog_6_method_10_code 0 = .ok (.lload_n 2, 1) := by decide +kernel
theorem d20_1 : decode prog_6_method_10_code 1 = .ok (.lload_n 0, 1) := by decide +kernel
theorem d20_2 : decode prog_6_method_10_code 2 = .ok (.invokestatic 81, 3) := by decide +kernel
theorem d20_5 : decode prog_6_method_10_code 5 = .ok (.ifCond .ge 7, 3) := by decide +kernel
theorem d20_8 : decode prog_6_method_10_code 8 = .ok (.lconst 1, 1) := by decide +kernel
theorem d20_9 : decode prog_6_method_10_code 9 = .ok (.goto 4, 3) := by decide +kernel
theorem d20_13 : decode prog_6_method_10_code 13 = .ok (.lreturn, 1) := by decide +kernel
theorem d20_12 : decode prog_6_method_10_code 12 = .ok (.lconst 0, 1) := by decide +kernel
theorem ef_rm20 (m : MethodId) (x0 : Int64) (x1 : Int64) : entryFrame m #[(.long x0), (.long x1)] 4 = mkF m 0 #[.val (.long x0), .second, .val (.long x1), .second] [] := by first | (simp [entryFrame, mkF, argsToLocals, Value.category]; done) | rfl
def own_co (vx : Int64) (vy : Int64) : Int64 := (if (own_cu vy vx) < (0 : Int32) then (1 : Int64) else (0 : Int64))
def Q20 (Z : State) (vx : Int64) (vy : Int64) (h0 : Heap) (n0 : Nat) (v : Option Value) (h : Heap) (L : List Loc) : Prop := v = some (.long (own_co vx vy)) ∧ Fr n0 L ∧ h = h0
set_option maxRecDepth 65536 in
set_option maxHeartbeats 40000000 in
theorem rm20 (l : Launch) (Z : State) (a0 : Array Value) (hw : ∀ d ∈ tables_1, d.before a0 Z = true) (ws : List Jvm.Cond) (vx : Int64) (vy : Int64) (h0 : Heap) (n0 : Nat) (Z0 : n0 ≤ h0.size) :
    MetFree l (⟨"com/example/paniere/paniere/CompactDecimal", "carryOut", "(JJ)J"⟩ : MethodName) (head1 (Jvm.Cond.code (⟨"com/example/paniere/paniere/CompactDecimal", "carryOut", "(JJ)J"⟩ : MethodName) prog_6_method_10_code 4 (some .long) :: ws) ({ frames := 2, cells := 0, slots := 0, locals := 30 } : Room)) (fun a U => a = #[(.long vx), (.long vy)] ∧ Z.Warmed39 U.vm ∧ U.heap = h0) (fun _ _ _ _ _ => True) (fun _ U o U' => ∃ v L, o = .returned v ∧ Q20 Z vx vy h0 n0 v U'.heap L ∧ FrameEnd U o U' L ({ frames := 2, cells := 0, slots := 0, locals := 30 } : Room).cells ({ frames := 2, cells := 0, slots := 0, locals := 30 } : Room).slots) := by
  refine MetFree.of_bodySF (plainFor_of_name pn_117) hisR ?_
  intro p e s m args below meth c s₁ Bd hml0 hP hK
  obtain ⟨rfl, hZ, hh⟩ := hP
  have hx := Bd.exec
  have hby := Bd.bytes
  have hml : c.maxLocals = 4 := hml0
  have hown : s.vm.findClass "com/example/paniere/paniere/CompactDecimal" = some m.cls := findClass_of_methodNamed Bd.named
  have hnm := (name_of_methodNamed Bd.named Bd.method).1
  have X0 : Stand p l e ({ frames := 2, cells := 0, slots := 0, locals := 30 } : Room) s m #[(.long vx), (.long vy)] below meth c s₁ [] 0 0 := Stand.of_body Bd
  have e0 : s₁.heap = h0 := by rw [← hh, Bd.state]; rfl
  have N0 := Fr.nil n0
  have pre0 : ∀ t, Steps p.tables e below (s₁.setTop (mkF m 0 #[.val (.long vx), .second, .val (.long vy), .second] [])) t → Steps p.tables e below (s₁.setTop (entryFrame m #[(.long vx), (.long vy)] 4)) t := fun t k => castTop (ef_rm20 m vx vy) k
  obtain ⟨_, _, ⟨T1, L1, k1, n1⟩, -, X1, ⟨Lc1, hQ1, l1, y1, z1⟩, st1⟩ := Jvm.LawKit.callS X0 hx (y := (⟨"java/lang/Long", "compareUnsigned", "(JJ)I"⟩ : MethodName)) hown (mvT hZ (hw _ (List.mem_of_getElem? (i := 105) rfl))) (mvT hZ (hw _ (List.mem_of_getElem? (i := 106) rfl))) (mvT hZ (hw _ (List.mem_of_getElem? (i := 107) rfl))) (mvT hZ (hw _ (List.mem_of_getElem? (i := 108) rfl))) (by decide) (backOf (W := 0) (rm21 l Z a0 hw [] vy vx  h0 n0 Z0 ) hZ (hw _ (List.mem_of_getElem? (i := 108) rfl)) (hw _ (List.mem_of_getElem? (i := 107) rfl)) (by decide) (by decide)) (g := (mkF m 2 #[.val (.long vx), .second, .val (.long vy), .second] [(.long vx), (.long vy)])) rfl (by rw [hml]; rfl) (argsL := [(.long vy), (.long vx)]) (rest := []) (lenOf pd_1 rfl) rfl (by show 2 * 0 + _ ≤ _; exact Nat.le_of_eq rfl) (hb hby d20_2) (fun _ _ => ⟨rfl, e0, (by decide : 0 + 0 ≤ _), (by decide : 0 + 0 ≤ _)⟩)
  dsimp only [Pt.U, Pt.locs, Pt.cells, Pt.slots] at X1 l1 y1 z1 st1 hQ1
  obtain rfl : k1 = 0 := y1; obtain rfl : n1 = 0 := z1
  obtain ⟨rfl, N1q, e1q⟩ := hQ1
  have N1 : Fr n0 L1 := Eq.mpr (congrArg (Fr n0) l1) (Fr.app N0 N1q)
  have pre2 : ∀ t, Steps p.tables e below (T1.setTop (mkF m 5 #[.val (.long vx), .second, .val (.long vy), .second] [(.int (own_cu vy vx))])) t → Steps p.tables e below (s₁.setTop (entryFrame m #[(.long vx), (.long vy)] 4)) t := by
    intro t kt
    refine pre0 t ?_
    show Steps p.tables e below (s₁.setTop (mkF m 0 #[.val (.long vx), .second, .val (.long vy), .second] [])) _
    refine XS.lloadN X0.here hx rfl (hb hby d20_0) rfl ?_
    show Steps p.tables e below (s₁.setTop (mkF m 1 #[.val (.long vx), .second, .val (.long vy), .second] [(.long vy)])) _
    refine XS.lloadN X0.here hx rfl (hb hby d20_1) rfl ?_
    show Steps p.tables e below (s₁.setTop (mkF m 2 #[.val (.long vx), .second, .val (.long vy), .second] [(.long vx), (.long vy)])) _
    refine st1 _ ?_
    exact kt
  by_cases hc3 : (own_cu vy vx) < (0 : Int32)
  ·
    obtain ⟨fs, hr, hrun, hended, hW, hsame⟩ := X1.leave (v := some (.long (1 : Int64))) (fun h => by rw [Bd.returns] at h; cases h) (hlocks := BodyLoose.notSynchronized Bd)
    refine ⟨_, _, pre2 _ ?_, hrun, hended, _, _, rfl, ?_, ⟨_, rfl⟩, hW, hsame.mono (by decide) (by decide)⟩
    ·
      show Steps p.tables e below (T1.setTop (mkF m 5 #[.val (.long vx), .second, .val (.long vy), .second] [(.int (own_cu vy vx))])) _
      refine XS.ifNo X1.here hx rfl (hb hby d20_5) rfl ((if0 _ _).trans (tlt (hc3 : (own_cu vy vx) < (0 : Int32))).2.1) ?_
      show Steps p.tables e below (T1.setTop (mkF m 8 #[.val (.long vx), .second, .val (.long vy), .second] [])) _
      refine XS.lconst X1.here hx rfl (hb hby d20_8) ?_
      show Steps p.tables e below (T1.setTop (mkF m 9 #[.val (.long vx), .second, .val (.long vy), .second] [(.long (1 : Int64))])) _
      refine XS.goto X1.here hx rfl (pc0 := 9) (pc' := 13) rfl (hb hby d20_9) (by decide) (by decide) ?_
      show Steps p.tables e below (T1.setTop (mkF m 13 #[.val (.long vx), .second, .val (.long vy), .second] [(.long (1 : Int64))])) _
      exact retOut X1 hx (t := .long) (i := .lreturn) Bd.returns rfl (Or.inr (Or.inl ⟨rfl, rfl, _, rfl⟩)) (hb hby d20_13) hr
    ·
      show Q20 Z vx vy h0 n0 _ T1.heap _
      rw [e1q]
      have hv : (1 : Int64) = (own_co vx vy) := by rw [own_co, if_pos hc3]
      exact ⟨(congrArg (fun z => some (Value.long z)) hv), N1, rfl⟩
  ·
    obtain ⟨fs, hr, hrun, hended, hW, hsame⟩ := X1.leave (v := some (.long (0 : Int64))) (fun h => by rw [Bd.returns] at h; cases h) (hlocks := BodyLoose.notSynchronized Bd)
    refine ⟨_, _, pre2 _ ?_, hrun, hended, _, _, rfl, ?_, ⟨_, rfl⟩, hW, hsame.mono (by decide) (by decide)⟩
    ·
      show Steps p.tables e below (T1.setTop (mkF m 5 #[.val (.long vx), .second, .val (.long vy), .second] [(.int (own_cu vy vx))])) _
      refine XS.ifYes X1.here hx rfl (pc0 := 5) (pc' := 12) rfl (hb hby d20_5) rfl ((if0 _ _).trans (flt (hc3 : ¬ ((own_cu vy vx) < (0 : Int32)))).2.1) (by decide) (by decide) ?_
      show Steps p.tables e below (T1.setTop (mkF m 12 #[.val (.long vx), .second, .val (.long vy), .second] [])) _
      refine XS.lconst X1.here hx rfl (hb hby d20_12) ?_
      show Steps p.tables e below (T1.setTop (mkF m 13 #[.val (.long vx), .second, .val (.long vy), .second] [(.long (0 : Int64))])) _
      exact retOut X1 hx (t := .long) (i := .lreturn) Bd.returns rfl (Or.inr (Or.inl ⟨rfl, rfl, _, rfl⟩)) (hb hby d20_13) hr
    ·
      show Q20 Z vx vy h0 n0 _ T1.heap _
      rw [e1q]
      have hv : (0 : Int64) = (own_co vx vy) := by rw [own_co, if_neg hc3]
      exact ⟨(congrArg (fun z => some (Value.long z)) hv), N1, rfl⟩
theorem d8_0 : decode prog_7_method_1_code 0 = .ok (.aload_n 0, 1) := by decide +kernel
theorem d8_1 : decode prog_7_method_1_code 1 = .ok (.invokespecial 3, 3) := by decide +kernel
theorem d8_4 : decode prog_7_method_1_code 4 = .ok (.return_, 1) := by decide +kernel
theorem pn_152 : plainName "com/example/paniere/paniere/CompactDecimal$Digits" = true := by first | (simp [plainName, overriddenIn]; done) | decide +kernel
theorem ef_rm8 (m : MethodId) (x0 : Addr) : entryFrame m #[(.ref x0)] 1 = mkF m 0 #[.val (.ref x0)] [] := by first | (simp [entryFrame, mkF, argsToLocals, Value.category]; done) | rfl
def Q8 (Z : State) (va : Addr) (h0 : Heap) (n0 : Nat) (v : Option Value) (h : Heap) (L : List Loc) : Prop := v = none ∧ Fr n0 L ∧ h = h0
set_option maxRecDepth 65536 in
set_option maxHeartbeats 40000000 in
theorem rm8 (l : Launch) (Z : State) (a0 : Array Value) (hw : ∀ d ∈ tables_1, d.before a0 Z = true) (ws : List Jvm.Cond) (va : Addr) (h0 : Heap) (n0 : Nat) (Z0 : n0 ≤ h0.size) :
    MetFree l (⟨"com/example/paniere/paniere/CompactDecimal$Digits", "<init>", "()V"⟩ : MethodName) (head1 (Jvm.Cond.code (⟨"com/example/paniere/paniere/CompactDecimal$Digits", "<init>", "()V"⟩ : MethodName) prog_7_method_1_code 1 none :: ws) ({ frames := 1, cells := 0, slots := 0, locals := 12 } : Room)) (fun a U => a = #[(.ref va)] ∧ Z.Warmed39 U.vm ∧ U.heap = h0) (fun _ _ _ _ _ => True) (fun _ U o U' => ∃ v L, o = .returned v ∧ Q8 Z va h0 n0 v U'.heap L ∧ FrameEnd U o U' L ({ frames := 1, cells := 0, slots := 0, locals := 12 } : Room).cells ({ frames := 1, cells := 0, slots := 0, locals := 12 } : Room).slots) := by
  refine MetFree.of_bodySF (plainFor_of_name pn_152) hisR ?_
  intro p e s m args below meth c s₁ Bd hml0 hP hK
  obtain ⟨rfl, hZ, hh⟩ := hP
  have hx := Bd.exec
  have hby := Bd.bytes
  have hml : c.maxLocals = 1 := hml0
  have hown : s.vm.findClass "com/example/paniere/paniere/CompactDecimal$Digits" = some m.cls := findClass_of_methodNamed Bd.named
  have hnm := (name_of_methodNamed Bd.named Bd.method).1
  have X0 : Stand p l e ({ frames := 1, cells := 0, slots := 0, locals := 12 } : Room) s m #[(.ref va)] below meth c s₁ [] 0 0 := Stand.of_body Bd
  have e0 : s₁.heap = h0 := by rw [← hh, Bd.state]; rfl
  have N0 := Fr.nil n0
  have pre0 : ∀ t, Steps p.tables e below (s₁.setTop (mkF m 0 #[.val (.ref va)] [])) t → Steps p.tables e below (s₁.setTop (entryFrame m #[(.ref va)] 1)) t := fun t k => castTop (ef_rm8 m va) k
  obtain ⟨T1, X1, e1, st1⟩ := initO X0 hx hZ hown (hw _ (List.mem_of_getElem? (i := 41) rfl)) (hw _ (List.mem_of_getElem? (i := 17) rfl)) (hw _ (List.mem_of_getElem? (i := 18) rfl)) e0 (g := (mkF m 1 #[.val (.ref va)] [(.ref va)])) rfl (by rw [hml]; rfl) rfl (hb hby d8_1) (by decide) (W := 0) (by show 2 * 0 + _ ≤ _; exact Nat.le_of_eq rfl) (by decide)
  obtain ⟨fs, hr, hrun, hended, hW, hsame⟩ := X1.leave (v := none) (fun _ => rfl) (hlocks := BodyLoose.notSynchronized Bd)
  refine ⟨_, _, pre0 _ ?_, hrun, hended, _, _, rfl, ?_, ⟨_, rfl⟩, hW, hsame.mono (by decide) (by decide)⟩
  ·
    show Steps p.tables e below (s₁.setTop (mkF m 0 #[.val (.ref va)] [])) _
    refine XS.aloadN X0.here hx rfl (hb hby d8_0) rfl rfl ?_
    show Steps p.tables e below (s₁.setTop (mkF m 1 #[.val (.ref va)] [(.ref va)])) _
    refine st1 _ ?_
    show Steps p.tables e below (T1.setTop (mkF m 4 #[.val (.ref va)] [])) _
    exact X1.returnOut hx Bd.returns (hb hby d8_4) hr
  ·
    show Q8 Z va h0 n0 _ T1.heap _
    rw [e1]
    exact ⟨rfl, N0, rfl⟩
theorem d16_0 : decode prog_7_method_10_code 0 = .ok (.aload_n 0, 1) := by decide +kernel
theorem d16_1 : decode prog_7_method_10_code 1 = .ok (.getfield 9, 3) := by decide +kernel
theorem d16_4 : decode prog_7_method_10_code 4 = .ok (.lconst 0, 1) := by decide +kernel
theorem d16_5 : decode prog_7_method_10_code 5 = .ok (.lcmp, 1) := by decide +kernel
theorem d16_6 : decode prog_7_method_10_code 6 = .ok (.ifCond .ne 39, 3) := by decide +kernel
theorem d16_9 : decode prog_7_method_10_code 9 = .ok (.aload_n 0, 1) := by decide +kernel
theorem d16_10 : decode prog_7_method_10_code 10 = .ok (.getfield 15, 3) := by decide +kernel
theorem d16_13 : decode prog_7_method_10_code 13 = .ok (.lconst 0, 1) := by decide +kernel
theorem d16_14 : decode prog_7_method_10_code 14 = .ok (.lcmp, 1) := by decide +kernel
theorem d16_15 : decode prog_7_method_10_code 15 = .ok (.ifCond .lt 30, 3) := by decide +kernel
theorem d16_45 : decode prog_7_method_10_code 45 = .ok (.ldc2_w 47, 3) := by decide +kernel
theorem d16_48 : decode prog_7_method_10_code 48 = .ok (.aload_n 0, 1) := by decide +kernel
theorem d16_49 : decode prog_7_method_10_code 49 = .ok (.getfield 15, 3) := by decide +kernel
theorem d16_52 : decode prog_7_method_10_code 52 = .ok (.lmul, 1) := by decide +kernel
theorem d16_53 : decode prog_7_method_10_code 53 = .ok (.lstore_n 2, 1) := by decide +kernel
theorem d16_54 : decode prog_7_method_10_code 54 = .ok (.aload_n 0, 1) := by decide +kernel
theorem d16_55 : decode prog_7_method_10_code 55 = .ok (.ldc2_w 47, 3) := by decide +kernel
theorem d16_58 : decode prog_7_method_10_code 58 = .ok (.aload_n 0, 1) := by decide +kernel
theorem d16_59 : decode prog_7_method_10_code 59 = .ok (.getfield 9, 3) := by decide +kernel
theorem d16_62 : decode prog_7_method_10_code 62 = .ok (.lmul, 1) := by decide +kernel
theorem d16_63 : decode prog_7_method_10_code 63 = .ok (.aload_n 0, 1) := by decide +kernel
theorem d16_64 : decode prog_7_method_10_code 64 = .ok (.getfield 15, 3) := by decide +kernel
theorem d16_67 : decode prog_7_method_10_code 67 = .ok (.ldc2_w 47, 3) := by decide +kernel
theorem d16_70 : decode prog_7_method_10_code 70 = .ok (.invokestatic 49, 3) := by decide +kernel
theorem d16_73 : decode prog_7_method_10_code 73 = .ok (.ladd, 1) := by decide +kernel
theorem d16_74 : decode prog_7_method_10_code 74 = .ok (.putfield 9, 3) := by decide +kernel
theorem d16_77 : decode prog_7_method_10_code 77 = .ok (.aload_n 0, 1) := by decide +kernel
theorem d16_78 : decode prog_7_method_10_code 78 = .ok (.lload_n 2, 1) := by decide +kernel
theorem d16_79 : decode prog_7_method_10_code 79 = .ok (.iload_n 1, 1) := by decide +kernel
theorem d16_80 : decode prog_7_method_10_code 80 = .ok (.i2l, 1) := by decide +kernel
theorem d16_81 : decode prog_7_method_10_code 81 = .ok (.ladd, 1) := by decide +kernel
theorem d16_82 : decode prog_7_method_10_code 82 = .ok (.putfield 15, 3) := by decide +kernel
theorem d16_85 : decode prog_7_method_10_code 85 = .ok (.aload_n 0, 1) := by decide +kernel
theorem d16_86 : decode prog_7_method_10_code 86 = .ok (.dup, 1) := by decide +kernel
theorem d16_87 : decode prog_7_method_10_code 87 = .ok (.getfield 9, 3) := by decide +kernel
theorem d16_90 : decode prog_7_method_10_code 90 = .ok (.lload_n 2, 1) := by decide +kernel
theorem d16_91 : decode prog_7_method_10_code 91 = .ok (.aload_n 0, 1) := by decide +kernel
theorem d16_92 : decode prog_7_method_10_code 92 = .ok (.getfield 15, 3) := by decide +kernel
theorem d16_95 : decode prog_7_method_10_code 95 = .ok (.invokestatic 53, 3) := by decide +kernel
theorem d16_98 : decode prog_7_method_10_code 98 = .ok (.ladd, 1) := by decide +kernel
theorem d16_99 : decode prog_7_method_10_code 99 = .ok (.putfield 9, 3) := by decide +kernel
theorem d16_102 : decode prog_7_method_10_code 102 = .ok (.return_, 1) := by decide +kernel
theorem d16_18 : decode prog_7_method_10_code 18 = .ok (.aload_n 0, 1) := by decide +kernel
theorem d16_19 : decode prog_7_method_10_code 19 = .ok (.getfield 15, 3) := by decide +kernel
theorem d16_22 : decode prog_7_method_10_code 22 = .ok (.ldc2_w 45, 3) := by decide +kernel
theorem d16_25 : decode prog_7_method_10_code 25 = .ok (.lcmp, 1) := by decide +kernel
theorem d16_26 : decode prog_7_method_10_code 26 = .ok (.ifCond .ge 19, 3) := by decide +kernel
theorem d16_29 : decode prog_7_method_10_code 29 = .ok (.aload_n 0, 1) := by decide +kernel
theorem d16_30 : decode prog_7_method_10_code 30 = .ok (.ldc2_w 47, 3) := by decide +kernel
theorem d16_33 : decode prog_7_method_10_code 33 = .ok (.aload_n 0, 1) := by decide +kernel
theorem d16_34 : decode prog_7_method_10_code 34 = .ok (.getfield 15, 3) := by decide +kernel
theorem d16_37 : decode prog_7_method_10_code 37 = .ok (.lmul, 1) := by decide +kernel
theorem d16_38 : decode prog_7_method_10_code 38 = .ok (.iload_n 1, 1) := by decide +kernel
theorem d16_39 : decode prog_7_method_10_code 39 = .ok (.i2l, 1) := by decide +kernel
theorem d16_40 : decode prog_7_method_10_code 40 = .ok (.ladd, 1) := by decide +kernel
theorem d16_41 : decode prog_7_method_10_code 41 = .ok (.putfield 15, 3) := by decide +kernel
theorem d16_44 : decode prog_7_method_10_code 44 = .ok (.return_, 1) := by decide +kernel
theorem ef_rm16 (m : MethodId) (x0 : Addr) (x1 : Int32) : entryFrame m #[(.ref x0), (.int x1)] 4 = mkF m 0 #[.val (.ref x0), .val (.int x1), .unset, .unset] [] := by first | (simp [entryFrame, mkF, argsToLocals, Value.category]; done) | rfl
def Q16 (Z : State) (va : Addr) (vd : Int32) (hw_ lw : Int64) (vsc vsg : Int32) (h0 : Heap) (n0 : Nat) (v : Option Value) (h : Heap) (L : List Loc) : Prop := v = none ∧ Fr n0 L ∧ Keep h0 h [va] ∧ Exa Z h va "com/example/paniere/paniere/CompactDecimal$Digits" ∧ ∃ uh ul : Int64, Fld Z h va "com/example/paniere/paniere/CompactDecimal$Digits" "high" "J" (.long uh) ∧ Fld Z h va "com/example/paniere/paniere/CompactDecimal$Digits" "low" "J" (.long ul) ∧ Fld Z h va "com/example/paniere/paniere/CompactDecimal$Digits" "scale" "I" (.int vsc) ∧ Fld Z h va "com/example/paniere/paniere/CompactDecimal$Digits" "significant" "I" (.int vsg)
set_option maxRecDepth 65536 in
set_option maxHeartbeats 40000000 in
theorem rm16 (l : Launch) (Z : State) (a0 : Array Value) (hw : ∀ d ∈ tables_1, d.before a0 Z = true) (ws : List Jvm.Cond) (va : Addr) (vd : Int32) (hw_ lw : Int64) (vsc vsg : Int32) (h0 : Heap) (n0 : Nat) (Z0 : n0 ≤ h0.size) (Ea : Exa Z h0 va "com/example/paniere/paniere/CompactDecimal$Digits") (Fh : Fld Z h0 va "com/example/paniere/paniere/CompactDecimal$Digits" "high" "J" (.long hw_)) (Fl_ : Fld Z h0 va "com/example/paniere/paniere/CompactDecimal$Digits" "low" "J" (.long lw)) (Fs : Fld Z h0 va "com/example/paniere/paniere/CompactDecimal$Digits" "scale" "I" (.int vsc)) (Fg : Fld Z h0 va "com/example/paniere/paniere/CompactDecimal$Digits" "significant" "I" (.int vsg)) (g_va : n0 ≤ va) :
    MetFree l (⟨"com/example/paniere/paniere/CompactDecimal$Digits", "appendDigit", "(I)V"⟩ : MethodName) (head1 (Jvm.Cond.code (⟨"com/example/paniere/paniere/CompactDecimal$Digits", "appendDigit", "(I)V"⟩ : MethodName) prog_7_method_10_code 4 none :: ws) ({ frames := 3, cells := 0, slots := 0, locals := 49 } : Room)) (fun a U => a = #[(.ref va), (.int vd)] ∧ Z.Warmed39 U.vm ∧ U.heap = h0) (fun _ _ _ _ _ => True) (fun _ U o U' => ∃ v L, o = .returned v ∧ Q16 Z va vd hw_ lw vsc vsg h0 n0 v U'.heap L ∧ FrameEnd U o U' L ({ frames := 3, cells := 0, slots := 0, locals := 49 } : Room).cells ({ frames := 3, cells := 0, slots := 0, locals := 49 } : Room).slots) := by
  refine MetFree.of_bodySF (plainFor_of_name pn_152) hisR ?_
  intro p e s m args below meth c s₁ Bd hml0 hP hK
  obtain ⟨rfl, hZ, hh⟩ := hP
  have hx := Bd.exec
  have hby := Bd.bytes
  have hml : c.maxLocals = 4 := hml0
  have hown : s.vm.findClass "com/example/paniere/paniere/CompactDecimal$Digits" = some m.cls := findClass_of_methodNamed Bd.named
  have hnm := (name_of_methodNamed Bd.named Bd.method).1
  have X0 : Stand p l e ({ frames := 3, cells := 0, slots := 0, locals := 49 } : Room) s m #[(.ref va), (.int vd)] below meth c s₁ [] 0 0 := Stand.of_body Bd
  have e0 : s₁.heap = h0 := by rw [← hh, Bd.state]; rfl
  have N0 := Fr.nil n0
  have pre0 : ∀ t, Steps p.tables e below (s₁.setTop (mkF m 0 #[.val (.ref va), .val (.int vd), .unset, .unset] [])) t → Steps p.tables e below (s₁.setTop (entryFrame m #[(.ref va), (.int vd)] 4)) t := fun t k => castTop (ef_rm16 m va vd) k
  obtain ⟨T1, X1, e1, st1⟩ := getF X0 hx hZ hown (host := "") (Or.inl (hw _ (List.mem_of_getElem? (i := 47) rfl))) Via.refl e0 Fh (g := (mkF m 1 #[.val (.ref va), .val (.int vd), .unset, .unset] [(.ref va)])) rfl rfl (hb hby d16_1)
  have pre2 : ∀ t, Steps p.tables e below (T1.setTop (mkF m 6 #[.val (.ref va), .val (.int vd), .unset, .unset] [(.int (lcmpW hw_ (0 : Int64)))])) t → Steps p.tables e below (s₁.setTop (entryFrame m #[(.ref va), (.int vd)] 4)) t := by
    intro t kt
    refine pre0 t ?_
    show Steps p.tables e below (s₁.setTop (mkF m 0 #[.val (.ref va), .val (.int vd), .unset, .unset] [])) _
    refine XS.aloadN X0.here hx rfl (hb hby d16_0) rfl rfl ?_
    show Steps p.tables e below (s₁.setTop (mkF m 1 #[.val (.ref va), .val (.int vd), .unset, .unset] [(.ref va)])) _
    refine st1 _ ?_
    show Steps p.tables e below (T1.setTop (mkF m 4 #[.val (.ref va), .val (.int vd), .unset, .unset] [(.long hw_)])) _
    refine XS.lconst X1.here hx rfl (hb hby d16_4) ?_
    show Steps p.tables e below (T1.setTop (mkF m 5 #[.val (.ref va), .val (.int vd), .unset, .unset] [(.long (0 : Int64)), (.long hw_)])) _
    refine XS.lcmp X1.here hx rfl (hb hby d16_5) rfl ?_
    exact kt
  by_cases hc3 : hw_ = (0 : Int64)
  ·
    obtain ⟨T4, X4, e4, st4⟩ := getF X1 hx hZ hown (host := "") (Or.inl (hw _ (List.mem_of_getElem? (i := 49) rfl))) Via.refl e1 Fl_ (g := (mkF m 10 #[.val (.ref va), .val (.int vd), .unset, .unset] [(.ref va)])) rfl rfl (hb hby d16_10)
    have pre5 : ∀ t, Steps p.tables e below (T4.setTop (mkF m 15 #[.val (.ref va), .val (.int vd), .unset, .unset] [(.int (lcmpW lw (0 : Int64)))])) t → Steps p.tables e below (s₁.setTop (entryFrame m #[(.ref va), (.int vd)] 4)) t := by
      intro t kt
      refine pre2 t ?_
      show Steps p.tables e below (T1.setTop (mkF m 6 #[.val (.ref va), .val (.int vd), .unset, .unset] [(.int (lcmpW hw_ (0 : Int64)))])) _
      refine XS.ifNo X1.here hx rfl (hb hby d16_6) rfl ((if0 _ _).trans (teq (((lw_eq _ _).mpr hc3) : (lcmpW hw_ (0 : Int64)) = (0 : Int32))).2) ?_
      show Steps p.tables e below (T1.setTop (mkF m 9 #[.val (.ref va), .val (.int vd), .unset, .unset] [])) _
      refine XS.aloadN X1.here hx rfl (hb hby d16_9) rfl rfl ?_
      show Steps p.tables e below (T1.setTop (mkF m 10 #[.val (.ref va), .val (.int vd), .unset, .unset] [(.ref va)])) _
      refine st4 _ ?_
      show Steps p.tables e below (T4.setTop (mkF m 13 #[.val (.ref va), .val (.int vd), .unset, .unset] [(.long lw)])) _
      refine XS.lconst X4.here hx rfl (hb hby d16_13) ?_
      show Steps p.tables e below (T4.setTop (mkF m 14 #[.val (.ref va), .val (.int vd), .unset, .unset] [(.long (0 : Int64)), (.long lw)])) _
      refine XS.lcmp X4.here hx rfl (hb hby d16_14) rfl ?_
      exact kt
    by_cases hc6 : lw < (0 : Int64)
    ·
      obtain ⟨T7, X7, e7, st7⟩ := getF X4 hx hZ hown (host := "") (Or.inl (hw _ (List.mem_of_getElem? (i := 49) rfl))) Via.refl e4 Fl_ (g := (mkF m 49 #[.val (.ref va), .val (.int vd), .unset, .unset] [(.ref va), (.long (10 : Int64))])) rfl rfl (hb hby d16_49)
      obtain ⟨T8, X8, e8, st8⟩ := getF X7 hx hZ hown (host := "") (Or.inl (hw _ (List.mem_of_getElem? (i := 47) rfl))) Via.refl e7 Fh (g := (mkF m 59 #[.val (.ref va), .val (.int vd), .val (.long ((10 : Int64) * lw)), .second] [(.ref va), (.long (10 : Int64)), (.ref va)])) rfl rfl (hb hby d16_59)
      obtain ⟨T9, X9, e9, st9⟩ := getF X8 hx hZ hown (host := "") (Or.inl (hw _ (List.mem_of_getElem? (i := 49) rfl))) Via.refl e8 Fl_ (g := (mkF m 64 #[.val (.ref va), .val (.int vd), .val (.long ((10 : Int64) * lw)), .second] [(.ref va), (.long ((10 : Int64) * hw_)), (.ref va)])) rfl rfl (hb hby d16_64)
      obtain ⟨_, _, ⟨T10, L10, k10, n10⟩, -, X10, ⟨Lc10, hQ10, l10, y10, z10⟩, st10⟩ := callSN X9 hx (y := (⟨"com/example/paniere/paniere/CompactDecimal", "unsignedMultiplyHigh", "(JJ)J"⟩ : MethodName)) hown (own_mvMN hZ (hw _ (List.mem_of_getElem? (i := 94) rfl))) (mvT hZ (hw _ (List.mem_of_getElem? (i := 95) rfl))) (mvT hZ (hw _ (List.mem_of_getElem? (i := 96) rfl))) (mvT hZ (hw _ (List.mem_of_getElem? (i := 97) rfl))) (by decide) (backOf (W := 3) (rm18 l Z a0 hw [] lw (10 : Int64)  h0 n0 Z0 ) hZ (hw _ (List.mem_of_getElem? (i := 97) rfl)) (hw _ (List.mem_of_getElem? (i := 96) rfl)) (by decide) (by decide)) (g := (mkF m 70 #[.val (.ref va), .val (.int vd), .val (.long ((10 : Int64) * lw)), .second] [(.long (10 : Int64)), (.long lw), (.long ((10 : Int64) * hw_)), (.ref va)])) rfl (by rw [hml]; rfl) (argsL := [(.long lw), (.long (10 : Int64))]) (rest := [(.long ((10 : Int64) * hw_)), (.ref va)]) (lenOf pd_0 rfl) rfl (by show 2 * 0 + _ ≤ _; exact Nat.le_of_eq rfl) (hb hby d16_70) (fun _ _ => ⟨rfl, e9, (by decide : 0 + 0 ≤ _), (by decide : 0 + 0 ≤ _)⟩)
      dsimp only [Pt.U, Pt.locs, Pt.cells, Pt.slots] at X10 l10 y10 z10 st10 hQ10
      obtain rfl : k10 = 0 := y10; obtain rfl : n10 = 0 := z10
      obtain ⟨rfl, N10q, e10q⟩ := hQ10
      have N10 : Fr n0 L10 := Eq.mpr (congrArg (Fr n0) l10) (Fr.app N0 N10q)
      obtain ⟨T11, h11, X11, e11, W11, st11⟩ := putF X10 hx hZ hown (host := "") (Or.inl (hw _ (List.mem_of_getElem? (i := 47) rfl))) Via.refl e10q Fh Ea (Or.inl (hw _ (List.mem_of_getElem? (i := 48) rfl))) (hw _ (List.mem_of_getElem? (i := 36) rfl)) (ty := .long) (by decide) rfl rfl (g := (mkF m 74 #[.val (.ref va), .val (.int vd), .val (.long ((10 : Int64) * lw)), .second] [(.long (((10 : Int64) * hw_) + (own_um lw (10 : Int64)))), (.ref va)])) rfl rfl (hb hby d16_74)
      have Fw11 : Fld Z h11 va "com/example/paniere/paniere/CompactDecimal$Digits" "high" "J" (.long (((10 : Int64) * hw_) + (own_um lw (10 : Int64)))) := Fh.same W11
      have c12 : Exa Z h11 va "com/example/paniere/paniere/CompactDecimal$Digits" := Ea.wr W11
      have c13 : Fld Z h11 va "com/example/paniere/paniere/CompactDecimal$Digits" "low" "J" (.long lw) := Fl_.other W11 (Or.inr (slot_ne (Or.inl (hw _ (List.mem_of_getElem? (i := 50) rfl))) (Or.inl (hw _ (List.mem_of_getElem? (i := 48) rfl))) (by decide) (t := .long) (t' := .long) (by decide) (by decide)))
      have c14 : Fld Z h11 va "com/example/paniere/paniere/CompactDecimal$Digits" "scale" "I" (.int vsc) := Fs.other W11 (Or.inr (slot_ne (Or.inl (hw _ (List.mem_of_getElem? (i := 52) rfl))) (Or.inl (hw _ (List.mem_of_getElem? (i := 48) rfl))) (by decide) (t := .int) (t' := .long) (by decide) (by decide)))
      have c15 : Fld Z h11 va "com/example/paniere/paniere/CompactDecimal$Digits" "significant" "I" (.int vsg) := Fg.other W11 (Or.inr (slot_ne (Or.inl (hw _ (List.mem_of_getElem? (i := 54) rfl))) (Or.inl (hw _ (List.mem_of_getElem? (i := 48) rfl))) (by decide) (t := .int) (t' := .long) (by decide) (by decide)))
      have Z11 : n0 ≤ h11.size := Nat.le_trans Z0 (Keep.of_wr W11).1
      have N11 := Fr.snoc X11 N10 g_va
      have K11 : Keep h0 h11 [va] := (Keep.refl h0 [va]).wr W11 (Or.inl (List.mem_of_getElem? (i := 0) rfl))
      obtain ⟨T16, h16, X16, e16, W16, st16⟩ := putF X11 hx hZ hown (host := "") (Or.inl (hw _ (List.mem_of_getElem? (i := 49) rfl))) Via.refl e11 c13 c12 (Or.inl (hw _ (List.mem_of_getElem? (i := 50) rfl))) (hw _ (List.mem_of_getElem? (i := 36) rfl)) (ty := .long) (by decide) rfl rfl (g := (mkF m 82 #[.val (.ref va), .val (.int vd), .val (.long ((10 : Int64) * lw)), .second] [(.long (((10 : Int64) * lw) + (vd.toInt64))), (.ref va)])) rfl rfl (hb hby d16_82)
      have Fw16 : Fld Z h16 va "com/example/paniere/paniere/CompactDecimal$Digits" "low" "J" (.long (((10 : Int64) * lw) + (vd.toInt64))) := c13.same W16
      have c17 : Exa Z h16 va "com/example/paniere/paniere/CompactDecimal$Digits" := c12.wr W16
      have c18 : Fld Z h16 va "com/example/paniere/paniere/CompactDecimal$Digits" "high" "J" (.long (((10 : Int64) * hw_) + (own_um lw (10 : Int64)))) := Fw11.other W16 (Or.inr (slot_ne (Or.inl (hw _ (List.mem_of_getElem? (i := 48) rfl))) (Or.inl (hw _ (List.mem_of_getElem? (i := 50) rfl))) (by decide) (t := .long) (t' := .long) (by decide) (by decide)))
      have c19 : Fld Z h16 va "com/example/paniere/paniere/CompactDecimal$Digits" "scale" "I" (.int vsc) := c14.other W16 (Or.inr (slot_ne (Or.inl (hw _ (List.mem_of_getElem? (i := 52) rfl))) (Or.inl (hw _ (List.mem_of_getElem? (i := 50) rfl))) (by decide) (t := .int) (t' := .long) (by decide) (by decide)))
      have c20 : Fld Z h16 va "com/example/paniere/paniere/CompactDecimal$Digits" "significant" "I" (.int vsg) := c15.other W16 (Or.inr (slot_ne (Or.inl (hw _ (List.mem_of_getElem? (i := 54) rfl))) (Or.inl (hw _ (List.mem_of_getElem? (i := 50) rfl))) (by decide) (t := .int) (t' := .long) (by decide) (by decide)))
      have Z16 : n0 ≤ h16.size := Nat.le_trans Z11 (Keep.of_wr W16).1
      have N16 := Fr.snoc X16 N11 g_va
      have K16 : Keep h0 h16 [va] := K11.wr W16 (Or.inl (List.mem_of_getElem? (i := 0) rfl))
      obtain ⟨T21, X21, e21, st21⟩ := getF X16 hx hZ hown (host := "") (Or.inl (hw _ (List.mem_of_getElem? (i := 47) rfl))) Via.refl e16 c18 (g := (mkF m 87 #[.val (.ref va), .val (.int vd), .val (.long ((10 : Int64) * lw)), .second] [(.ref va), (.ref va)])) rfl rfl (hb hby d16_87)
      obtain ⟨T22, X22, e22, st22⟩ := getF X21 hx hZ hown (host := "") (Or.inl (hw _ (List.mem_of_getElem? (i := 49) rfl))) Via.refl e21 Fw16 (g := (mkF m 92 #[.val (.ref va), .val (.int vd), .val (.long ((10 : Int64) * lw)), .second] [(.ref va), (.long ((10 : Int64) * lw)), (.long (((10 : Int64) * hw_) + (own_um lw (10 : Int64)))), (.ref va)])) rfl rfl (hb hby d16_92)
      obtain ⟨_, _, ⟨T23, L23, k23, n23⟩, -, X23, ⟨Lc23, hQ23, l23, y23, z23⟩, st23⟩ := callSN X22 hx (y := (⟨"com/example/paniere/paniere/CompactDecimal", "carryOut", "(JJ)J"⟩ : MethodName)) hown (own_mvMN hZ (hw _ (List.mem_of_getElem? (i := 102) rfl))) (mvT hZ (hw _ (List.mem_of_getElem? (i := 103) rfl))) (mvT hZ (hw _ (List.mem_of_getElem? (i := 96) rfl))) (mvT hZ (hw _ (List.mem_of_getElem? (i := 104) rfl))) (by decide) (backOf (W := 3) (rm20 l Z a0 hw [] ((10 : Int64) * lw) (((10 : Int64) * lw) + (vd.toInt64))  h16 n0 Z16 ) hZ (hw _ (List.mem_of_getElem? (i := 104) rfl)) (hw _ (List.mem_of_getElem? (i := 96) rfl)) (by decide) (by decide)) (g := (mkF m 95 #[.val (.ref va), .val (.int vd), .val (.long ((10 : Int64) * lw)), .second] [(.long (((10 : Int64) * lw) + (vd.toInt64))), (.long ((10 : Int64) * lw)), (.long (((10 : Int64) * hw_) + (own_um lw (10 : Int64)))), (.ref va)])) rfl (by rw [hml]; rfl) (argsL := [(.long ((10 : Int64) * lw)), (.long (((10 : Int64) * lw) + (vd.toInt64)))]) (rest := [(.long (((10 : Int64) * hw_) + (own_um lw (10 : Int64)))), (.ref va)]) (lenOf pd_0 rfl) rfl (by show 2 * 0 + _ ≤ _; exact Nat.le_of_eq rfl) (hb hby d16_95) (fun _ _ => ⟨rfl, e22, (by decide : 0 + 0 ≤ _), (by decide : 0 + 0 ≤ _)⟩)
      dsimp only [Pt.U, Pt.locs, Pt.cells, Pt.slots] at X23 l23 y23 z23 st23 hQ23
      obtain rfl : k23 = 0 := y23; obtain rfl : n23 = 0 := z23
      obtain ⟨rfl, N23q, e23q⟩ := hQ23
      have N23 : Fr n0 L23 := Eq.mpr (congrArg (Fr n0) l23) (Fr.app N16 N23q)
      obtain ⟨T24, h24, X24, e24, W24, st24⟩ := putF X23 hx hZ hown (host := "") (Or.inl (hw _ (List.mem_of_getElem? (i := 47) rfl))) Via.refl e23q c18 c17 (Or.inl (hw _ (List.mem_of_getElem? (i := 48) rfl))) (hw _ (List.mem_of_getElem? (i := 36) rfl)) (ty := .long) (by decide) rfl rfl (g := (mkF m 99 #[.val (.ref va), .val (.int vd), .val (.long ((10 : Int64) * lw)), .second] [(.long ((((10 : Int64) * hw_) + (own_um lw (10 : Int64))) + (own_co ((10 : Int64) * lw) (((10 : Int64) * lw) + (vd.toInt64))))), (.ref va)])) rfl rfl (hb hby d16_99)
      have Fw24 : Fld Z h24 va "com/example/paniere/paniere/CompactDecimal$Digits" "high" "J" (.long ((((10 : Int64) * hw_) + (own_um lw (10 : Int64))) + (own_co ((10 : Int64) * lw) (((10 : Int64) * lw) + (vd.toInt64))))) := c18.same W24
      have c25 : Exa Z h24 va "com/example/paniere/paniere/CompactDecimal$Digits" := c17.wr W24
      have c26 : Fld Z h24 va "com/example/paniere/paniere/CompactDecimal$Digits" "low" "J" (.long (((10 : Int64) * lw) + (vd.toInt64))) := Fw16.other W24 (Or.inr (slot_ne (Or.inl (hw _ (List.mem_of_getElem? (i := 50) rfl))) (Or.inl (hw _ (List.mem_of_getElem? (i := 48) rfl))) (by decide) (t := .long) (t' := .long) (by decide) (by decide)))
      have c27 : Fld Z h24 va "com/example/paniere/paniere/CompactDecimal$Digits" "scale" "I" (.int vsc) := c19.other W24 (Or.inr (slot_ne (Or.inl (hw _ (List.mem_of_getElem? (i := 52) rfl))) (Or.inl (hw _ (List.mem_of_getElem? (i := 48) rfl))) (by decide) (t := .int) (t' := .long) (by decide) (by decide)))
      have c28 : Fld Z h24 va "com/example/paniere/paniere/CompactDecimal$Digits" "significant" "I" (.int vsg) := c20.other W24 (Or.inr (slot_ne (Or.inl (hw _ (List.mem_of_getElem? (i := 54) rfl))) (Or.inl (hw _ (List.mem_of_getElem? (i := 48) rfl))) (by decide) (t := .int) (t' := .long) (by decide) (by decide)))
      have Z24 : n0 ≤ h24.size := Nat.le_trans Z16 (Keep.of_wr W24).1
      have N24 := Fr.snoc X24 N23 g_va
      have K24 : Keep h0 h24 [va] := K16.wr W24 (Or.inl (List.mem_of_getElem? (i := 0) rfl))
      obtain ⟨fs, hr, hrun, hended, hW, hsame⟩ := X24.leave (v := none) (fun _ => rfl) (hlocks := BodyLoose.notSynchronized Bd)
      refine ⟨_, _, pre5 _ ?_, hrun, hended, _, _, rfl, ?_, ⟨_, rfl⟩, hW, hsame.mono (by decide) (by decide)⟩
      ·
        show Steps p.tables e below (T4.setTop (mkF m 15 #[.val (.ref va), .val (.int vd), .unset, .unset] [(.int (lcmpW lw (0 : Int64)))])) _
        refine XS.ifYes X4.here hx rfl (pc0 := 15) (pc' := 45) rfl (hb hby d16_15) rfl ((if0 _ _).trans (tlt (((lw_lt _ _).mpr hc6) : (lcmpW lw (0 : Int64)) < (0 : Int32))).1) (by decide) (by decide) ?_
        show Steps p.tables e below (T4.setTop (mkF m 45 #[.val (.ref va), .val (.int vd), .unset, .unset] [])) _
        refine X4.ldc2J hx hown (mvT hZ (hw _ (List.mem_of_getElem? (i := 89) rfl))) (g := (mkF m 45 #[.val (.ref va), .val (.int vd), .unset, .unset] [])) rfl (hb hby d16_45) ?_
        show Steps p.tables e below (T4.setTop (mkF m 48 #[.val (.ref va), .val (.int vd), .unset, .unset] [(.long (10 : Int64))])) _
        refine XS.aloadN X4.here hx rfl (hb hby d16_48) rfl rfl ?_
        show Steps p.tables e below (T4.setTop (mkF m 49 #[.val (.ref va), .val (.int vd), .unset, .unset] [(.ref va), (.long (10 : Int64))])) _
        refine st7 _ ?_
        show Steps p.tables e below (T7.setTop (mkF m 52 #[.val (.ref va), .val (.int vd), .unset, .unset] [(.long lw), (.long (10 : Int64))])) _
        refine XS.lmul X7.here hx rfl (hb hby d16_52) rfl ?_
        show Steps p.tables e below (T7.setTop (mkF m 53 #[.val (.ref va), .val (.int vd), .unset, .unset] [(.long ((10 : Int64) * lw))])) _
        refine XS.lstoreN X7.here hx rfl (hb hby d16_53) rfl (l' := #[.val (.ref va), .val (.int vd), .val (.long ((10 : Int64) * lw)), .second]) rfl ?_
        show Steps p.tables e below (T7.setTop (mkF m 54 #[.val (.ref va), .val (.int vd), .val (.long ((10 : Int64) * lw)), .second] [])) _
        refine XS.aloadN X7.here hx rfl (hb hby d16_54) rfl rfl ?_
        show Steps p.tables e below (T7.setTop (mkF m 55 #[.val (.ref va), .val (.int vd), .val (.long ((10 : Int64) * lw)), .second] [(.ref va)])) _
        refine X7.ldc2J hx hown (mvT hZ (hw _ (List.mem_of_getElem? (i := 89) rfl))) (g := (mkF m 55 #[.val (.ref va), .val (.int vd), .val (.long ((10 : Int64) * lw)), .second] [(.ref va)])) rfl (hb hby d16_55) ?_
        show Steps p.tables e below (T7.setTop (mkF m 58 #[.val (.ref va), .val (.int vd), .val (.long ((10 : Int64) * lw)), .second] [(.long (10 : Int64)), (.ref va)])) _
        refine XS.aloadN X7.here hx rfl (hb hby d16_58) rfl rfl ?_
        show Steps p.tables e below (T7.setTop (mkF m 59 #[.val (.ref va), .val (.int vd), .val (.long ((10 : Int64) * lw)), .second] [(.ref va), (.long (10 : Int64)), (.ref va)])) _
        refine st8 _ ?_
        show Steps p.tables e below (T8.setTop (mkF m 62 #[.val (.ref va), .val (.int vd), .val (.long ((10 : Int64) * lw)), .second] [(.long hw_), (.long (10 : Int64)), (.ref va)])) _
        refine XS.lmul X8.here hx rfl (hb hby d16_62) rfl ?_
        show Steps p.tables e below (T8.setTop (mkF m 63 #[.val (.ref va), .val (.int vd), .val (.long ((10 : Int64) * lw)), .second] [(.long ((10 : Int64) * hw_)), (.ref va)])) _
        refine XS.aloadN X8.here hx rfl (hb hby d16_63) rfl rfl ?_
        show Steps p.tables e below (T8.setTop (mkF m 64 #[.val (.ref va), .val (.int vd), .val (.long ((10 : Int64) * lw)), .second] [(.ref va), (.long ((10 : Int64) * hw_)), (.ref va)])) _
        refine st9 _ ?_
        show Steps p.tables e below (T9.setTop (mkF m 67 #[.val (.ref va), .val (.int vd), .val (.long ((10 : Int64) * lw)), .second] [(.long lw), (.long ((10 : Int64) * hw_)), (.ref va)])) _
        refine X9.ldc2J hx hown (mvT hZ (hw _ (List.mem_of_getElem? (i := 89) rfl))) (g := (mkF m 67 #[.val (.ref va), .val (.int vd), .val (.long ((10 : Int64) * lw)), .second] [(.long lw), (.long ((10 : Int64) * hw_)), (.ref va)])) rfl (hb hby d16_67) ?_
        show Steps p.tables e below (T9.setTop (mkF m 70 #[.val (.ref va), .val (.int vd), .val (.long ((10 : Int64) * lw)), .second] [(.long (10 : Int64)), (.long lw), (.long ((10 : Int64) * hw_)), (.ref va)])) _
        refine st10.trans ?_
        show Steps p.tables e below (T10.setTop (mkF m 73 #[.val (.ref va), .val (.int vd), .val (.long ((10 : Int64) * lw)), .second] [(.long (own_um lw (10 : Int64))), (.long ((10 : Int64) * hw_)), (.ref va)])) _
        refine XS.ladd X10.here hx rfl (hb hby d16_73) rfl ?_
        show Steps p.tables e below (T10.setTop (mkF m 74 #[.val (.ref va), .val (.int vd), .val (.long ((10 : Int64) * lw)), .second] [(.long (((10 : Int64) * hw_) + (own_um lw (10 : Int64)))), (.ref va)])) _
        refine st11 _ ?_
        show Steps p.tables e below (T11.setTop (mkF m 77 #[.val (.ref va), .val (.int vd), .val (.long ((10 : Int64) * lw)), .second] [])) _
        refine XS.aloadN X11.here hx rfl (hb hby d16_77) rfl rfl ?_
        show Steps p.tables e below (T11.setTop (mkF m 78 #[.val (.ref va), .val (.int vd), .val (.long ((10 : Int64) * lw)), .second] [(.ref va)])) _
        refine XS.lloadN X11.here hx rfl (hb hby d16_78) rfl ?_
        show Steps p.tables e below (T11.setTop (mkF m 79 #[.val (.ref va), .val (.int vd), .val (.long ((10 : Int64) * lw)), .second] [(.long ((10 : Int64) * lw)), (.ref va)])) _
        refine XS.iloadN X11.here hx rfl (hb hby d16_79) rfl ?_
        show Steps p.tables e below (T11.setTop (mkF m 80 #[.val (.ref va), .val (.int vd), .val (.long ((10 : Int64) * lw)), .second] [(.int vd), (.long ((10 : Int64) * lw)), (.ref va)])) _
        refine XS.i2l X11.here hx rfl (hb hby d16_80) rfl ?_
        show Steps p.tables e below (T11.setTop (mkF m 81 #[.val (.ref va), .val (.int vd), .val (.long ((10 : Int64) * lw)), .second] [(.long (vd.toInt64)), (.long ((10 : Int64) * lw)), (.ref va)])) _
        refine XS.ladd X11.here hx rfl (hb hby d16_81) rfl ?_
        show Steps p.tables e below (T11.setTop (mkF m 82 #[.val (.ref va), .val (.int vd), .val (.long ((10 : Int64) * lw)), .second] [(.long (((10 : Int64) * lw) + (vd.toInt64))), (.ref va)])) _
        refine st16 _ ?_
        show Steps p.tables e below (T16.setTop (mkF m 85 #[.val (.ref va), .val (.int vd), .val (.long ((10 : Int64) * lw)), .second] [])) _
        refine XS.aloadN X16.here hx rfl (hb hby d16_85) rfl rfl ?_
        show Steps p.tables e below (T16.setTop (mkF m 86 #[.val (.ref va), .val (.int vd), .val (.long ((10 : Int64) * lw)), .second] [(.ref va)])) _
        refine XS.dup X16.here hx rfl (hb hby d16_86) rfl rfl ?_
        show Steps p.tables e below (T16.setTop (mkF m 87 #[.val (.ref va), .val (.int vd), .val (.long ((10 : Int64) * lw)), .second] [(.ref va), (.ref va)])) _
        refine st21 _ ?_
        show Steps p.tables e below (T21.setTop (mkF m 90 #[.val (.ref va), .val (.int vd), .val (.long ((10 : Int64) * lw)), .second] [(.long (((10 : Int64) * hw_) + (own_um lw (10 : Int64)))), (.ref va)])) _
        refine XS.lloadN X21.here hx rfl (hb hby d16_90) rfl ?_
        show Steps p.tables e below (T21.setTop (mkF m 91 #[.val (.ref va), .val (.int vd), .val (.long ((10 : Int64) * lw)), .second] [(.long ((10 : Int64) * lw)), (.long (((10 : Int64) * hw_) + (own_um lw (10 : Int64)))), (.ref va)])) _
        refine XS.aloadN X21.here hx rfl (hb hby d16_91) rfl rfl ?_
        show Steps p.tables e below (T21.setTop (mkF m 92 #[.val (.ref va), .val (.int vd), .val (.long ((10 : Int64) * lw)), .second] [(.ref va), (.long ((10 : Int64) * lw)), (.long (((10 : Int64) * hw_) + (own_um lw (10 : Int64)))), (.ref va)])) _
        refine st22 _ ?_
        show Steps p.tables e below (T22.setTop (mkF m 95 #[.val (.ref va), .val (.int vd), .val (.long ((10 : Int64) * lw)), .second] [(.long (((10 : Int64) * lw) + (vd.toInt64))), (.long ((10 : Int64) * lw)), (.long (((10 : Int64) * hw_) + (own_um lw (10 : Int64)))), (.ref va)])) _
        refine st23.trans ?_
        show Steps p.tables e below (T23.setTop (mkF m 98 #[.val (.ref va), .val (.int vd), .val (.long ((10 : Int64) * lw)), .second] [(.long (own_co ((10 : Int64) * lw) (((10 : Int64) * lw) + (vd.toInt64)))), (.long (((10 : Int64) * hw_) + (own_um lw (10 : Int64)))), (.ref va)])) _
        refine XS.ladd X23.here hx rfl (hb hby d16_98) rfl ?_
        show Steps p.tables e below (T23.setTop (mkF m 99 #[.val (.ref va), .val (.int vd), .val (.long ((10 : Int64) * lw)), .second] [(.long ((((10 : Int64) * hw_) + (own_um lw (10 : Int64))) + (own_co ((10 : Int64) * lw) (((10 : Int64) * lw) + (vd.toInt64))))), (.ref va)])) _
        refine st24 _ ?_
        show Steps p.tables e below (T24.setTop (mkF m 102 #[.val (.ref va), .val (.int vd), .val (.long ((10 : Int64) * lw)), .second] [])) _
        exact X24.returnOut hx Bd.returns (hb hby d16_102) hr
      ·
        show Q16 Z va vd hw_ lw vsc vsg h0 n0 _ T24.heap _
        rw [e24]
        exact ⟨rfl, N24, K24, c25, _, _, Fw24, c26, c27, c28⟩
    ·
      obtain ⟨T29, X29, e29, st29⟩ := getF X4 hx hZ hown (host := "") (Or.inl (hw _ (List.mem_of_getElem? (i := 49) rfl))) Via.refl e4 Fl_ (g := (mkF m 19 #[.val (.ref va), .val (.int vd), .unset, .unset] [(.ref va)])) rfl rfl (hb hby d16_19)
      have pre30 : ∀ t, Steps p.tables e below (T29.setTop (mkF m 26 #[.val (.ref va), .val (.int vd), .unset, .unset] [(.int (lcmpW lw (100000000000000000 : Int64)))])) t → Steps p.tables e below (s₁.setTop (entryFrame m #[(.ref va), (.int vd)] 4)) t := by
        intro t kt
        refine pre5 t ?_
        show Steps p.tables e below (T4.setTop (mkF m 15 #[.val (.ref va), .val (.int vd), .unset, .unset] [(.int (lcmpW lw (0 : Int64)))])) _
        refine XS.ifNo X4.here hx rfl (hb hby d16_15) rfl ((if0 _ _).trans (flt ((fun q => hc6 ((lw_lt _ _).mp q)) : ¬ ((lcmpW lw (0 : Int64)) < (0 : Int32)))).1) ?_
        show Steps p.tables e below (T4.setTop (mkF m 18 #[.val (.ref va), .val (.int vd), .unset, .unset] [])) _
        refine XS.aloadN X4.here hx rfl (hb hby d16_18) rfl rfl ?_
        show Steps p.tables e below (T4.setTop (mkF m 19 #[.val (.ref va), .val (.int vd), .unset, .unset] [(.ref va)])) _
        refine st29 _ ?_
        show Steps p.tables e below (T29.setTop (mkF m 22 #[.val (.ref va), .val (.int vd), .unset, .unset] [(.long lw)])) _
        refine X29.ldc2J hx hown (mvT hZ (hw _ (List.mem_of_getElem? (i := 88) rfl))) (g := (mkF m 22 #[.val (.ref va), .val (.int vd), .unset, .unset] [(.long lw)])) rfl (hb hby d16_22) ?_
        show Steps p.tables e below (T29.setTop (mkF m 25 #[.val (.ref va), .val (.int vd), .unset, .unset] [(.long (100000000000000000 : Int64)), (.long lw)])) _
        refine XS.lcmp X29.here hx rfl (hb hby d16_25) rfl ?_
        exact kt
      by_cases hc31 : lw < (100000000000000000 : Int64)
      ·
        obtain ⟨T32, X32, e32, st32⟩ := getF X29 hx hZ hown (host := "") (Or.inl (hw _ (List.mem_of_getElem? (i := 49) rfl))) Via.refl e29 Fl_ (g := (mkF m 34 #[.val (.ref va), .val (.int vd), .unset, .unset] [(.ref va), (.long (10 : Int64)), (.ref va)])) rfl rfl (hb hby d16_34)
        obtain ⟨T33, h33, X33, e33, W33, st33⟩ := putF X32 hx hZ hown (host := "") (Or.inl (hw _ (List.mem_of_getElem? (i := 49) rfl))) Via.refl e32 Fl_ Ea (Or.inl (hw _ (List.mem_of_getElem? (i := 50) rfl))) (hw _ (List.mem_of_getElem? (i := 36) rfl)) (ty := .long) (by decide) rfl rfl (g := (mkF m 41 #[.val (.ref va), .val (.int vd), .unset, .unset] [(.long (((10 : Int64) * lw) + (vd.toInt64))), (.ref va)])) rfl rfl (hb hby d16_41)
        have Fw33 : Fld Z h33 va "com/example/paniere/paniere/CompactDecimal$Digits" "low" "J" (.long (((10 : Int64) * lw) + (vd.toInt64))) := Fl_.same W33
        have c34 : Exa Z h33 va "com/example/paniere/paniere/CompactDecimal$Digits" := Ea.wr W33
        have c35 : Fld Z h33 va "com/example/paniere/paniere/CompactDecimal$Digits" "high" "J" (.long hw_) := Fh.other W33 (Or.inr (slot_ne (Or.inl (hw _ (List.mem_of_getElem? (i := 48) rfl))) (Or.inl (hw _ (List.mem_of_getElem? (i := 50) rfl))) (by decide) (t := .long) (t' := .long) (by decide) (by decide)))
        have c36 : Fld Z h33 va "com/example/paniere/paniere/CompactDecimal$Digits" "scale" "I" (.int vsc) := Fs.other W33 (Or.inr (slot_ne (Or.inl (hw _ (List.mem_of_getElem? (i := 52) rfl))) (Or.inl (hw _ (List.mem_of_getElem? (i := 50) rfl))) (by decide) (t := .int) (t' := .long) (by decide) (by decide)))
        have c37 : Fld Z h33 va "com/example/paniere/paniere/CompactDecimal$Digits" "significant" "I" (.int vsg) := Fg.other W33 (Or.inr (slot_ne (Or.inl (hw _ (List.mem_of_getElem? (i := 54) rfl))) (Or.inl (hw _ (List.mem_of_getElem? (i := 50) rfl))) (by decide) (t := .int) (t' := .long) (by decide) (by decide)))
        have Z33 : n0 ≤ h33.size := Nat.le_trans Z0 (Keep.of_wr W33).1
        have N33 := Fr.snoc X33 N0 g_va
        have K33 : Keep h0 h33 [va] := (Keep.refl h0 [va]).wr W33 (Or.inl (List.mem_of_getElem? (i := 0) rfl))
        obtain ⟨fs, hr, hrun, hended, hW, hsame⟩ := X33.leave (v := none) (fun _ => rfl) (hlocks := BodyLoose.notSynchronized Bd)
        refine ⟨_, _, pre30 _ ?_, hrun, hended, _, _, rfl, ?_, ⟨_, rfl⟩, hW, hsame.mono (by decide) (by decide)⟩
        ·
          show Steps p.tables e below (T29.setTop (mkF m 26 #[.val (.ref va), .val (.int vd), .unset, .unset] [(.int (lcmpW lw (100000000000000000 : Int64)))])) _
          refine XS.ifNo X29.here hx rfl (hb hby d16_26) rfl ((if0 _ _).trans (tlt (((lw_lt _ _).mpr hc31) : (lcmpW lw (100000000000000000 : Int64)) < (0 : Int32))).2.1) ?_
          show Steps p.tables e below (T29.setTop (mkF m 29 #[.val (.ref va), .val (.int vd), .unset, .unset] [])) _
          refine XS.aloadN X29.here hx rfl (hb hby d16_29) rfl rfl ?_
          show Steps p.tables e below (T29.setTop (mkF m 30 #[.val (.ref va), .val (.int vd), .unset, .unset] [(.ref va)])) _
          refine X29.ldc2J hx hown (mvT hZ (hw _ (List.mem_of_getElem? (i := 89) rfl))) (g := (mkF m 30 #[.val (.ref va), .val (.int vd), .unset, .unset] [(.ref va)])) rfl (hb hby d16_30) ?_
          show Steps p.tables e below (T29.setTop (mkF m 33 #[.val (.ref va), .val (.int vd), .unset, .unset] [(.long (10 : Int64)), (.ref va)])) _
          refine XS.aloadN X29.here hx rfl (hb hby d16_33) rfl rfl ?_
          show Steps p.tables e below (T29.setTop (mkF m 34 #[.val (.ref va), .val (.int vd), .unset, .unset] [(.ref va), (.long (10 : Int64)), (.ref va)])) _
          refine st32 _ ?_
          show Steps p.tables e below (T32.setTop (mkF m 37 #[.val (.ref va), .val (.int vd), .unset, .unset] [(.long lw), (.long (10 : Int64)), (.ref va)])) _
          refine XS.lmul X32.here hx rfl (hb hby d16_37) rfl ?_
          show Steps p.tables e below (T32.setTop (mkF m 38 #[.val (.ref va), .val (.int vd), .unset, .unset] [(.long ((10 : Int64) * lw)), (.ref va)])) _
          refine XS.iloadN X32.here hx rfl (hb hby d16_38) rfl ?_
          show Steps p.tables e below (T32.setTop (mkF m 39 #[.val (.ref va), .val (.int vd), .unset, .unset] [(.int vd), (.long ((10 : Int64) * lw)), (.ref va)])) _
          refine XS.i2l X32.here hx rfl (hb hby d16_39) rfl ?_
          show Steps p.tables e below (T32.setTop (mkF m 40 #[.val (.ref va), .val (.int vd), .unset, .unset] [(.long (vd.toInt64)), (.long ((10 : Int64) * lw)), (.ref va)])) _
          refine XS.ladd X32.here hx rfl (hb hby d16_40) rfl ?_
          show Steps p.tables e below (T32.setTop (mkF m 41 #[.val (.ref va), .val (.int vd), .unset, .unset] [(.long (((10 : Int64) * lw) + (vd.toInt64))), (.ref va)])) _
          refine st33 _ ?_
          show Steps p.tables e below (T33.setTop (mkF m 44 #[.val (.ref va), .val (.int vd), .unset, .unset] [])) _
          exact X33.returnOut hx Bd.returns (hb hby d16_44) hr
        ·
          show Q16 Z va vd hw_ lw vsc vsg h0 n0 _ T33.heap _
          rw [e33]
          exact ⟨rfl, N33, K33, c34, _, _, c35, Fw33, c36, c37⟩
      ·
        obtain ⟨T38, X38, e38, st38⟩ := getF X29 hx hZ hown (host := "") (Or.inl (hw _ (List.mem_of_getElem? (i := 49) rfl))) Via.refl e29 Fl_ (g := (mkF m 49 #[.val (.ref va), .val (.int vd), .unset, .unset] [(.ref va), (.long (10 : Int64))])) rfl rfl (hb hby d16_49)
        obtain ⟨T39, X39, e39, st39⟩ := getF X38 hx hZ hown (host := "") (Or.inl (hw _ (List.mem_of_getElem? (i := 47) rfl))) Via.refl e38 Fh (g := (mkF m 59 #[.val (.ref va), .val (.int vd), .val (.long ((10 : Int64) * lw)), .second] [(.ref va), (.long (10 : Int64)), (.ref va)])) rfl rfl (hb hby d16_59)
        obtain ⟨T40, X40, e40, st40⟩ := getF X39 hx hZ hown (host := "") (Or.inl (hw _ (List.mem_of_getElem? (i := 49) rfl))) Via.refl e39 Fl_ (g := (mkF m 64 #[.val (.ref va), .val (.int vd), .val (.long ((10 : Int64) * lw)), .second] [(.ref va), (.long ((10 : Int64) * hw_)), (.ref va)])) rfl rfl (hb hby d16_64)
        obtain ⟨_, _, ⟨T41, L41, k41, n41⟩, -, X41, ⟨Lc41, hQ41, l41, y41, z41⟩, st41⟩ := callSN X40 hx (y := (⟨"com/example/paniere/paniere/CompactDecimal", "unsignedMultiplyHigh", "(JJ)J"⟩ : MethodName)) hown (own_mvMN hZ (hw _ (List.mem_of_getElem? (i := 94) rfl))) (mvT hZ (hw _ (List.mem_of_getElem? (i := 95) rfl))) (mvT hZ (hw _ (List.mem_of_getElem? (i := 96) rfl))) (mvT hZ (hw _ (List.mem_of_getElem? (i := 97) rfl))) (by decide) (backOf (W := 3) (rm18 l Z a0 hw [] lw (10 : Int64)  h0 n0 Z0 ) hZ (hw _ (List.mem_of_getElem? (i := 97) rfl)) (hw _ (List.mem_of_getElem? (i := 96) rfl)) (by decide) (by decide)) (g := (mkF m 70 #[.val (.ref va), .val (.int vd), .val (.long ((10 : Int64) * lw)), .second] [(.long (10 : Int64)), (.long lw), (.long ((10 : Int64) * hw_)), (.ref va)])) rfl (by rw [hml]; rfl) (argsL := [(.long lw), (.long (10 : Int64))]) (rest := [(.long ((10 : Int64) * hw_)), (.ref va)]) (lenOf pd_0 rfl) rfl (by show 2 * 0 + _ ≤ _; exact Nat.le_of_eq rfl) (hb hby d16_70) (fun _ _ => ⟨rfl, e40, (by decide : 0 + 0 ≤ _), (by decide : 0 + 0 ≤ _)⟩)
        dsimp only [Pt.U, Pt.locs, Pt.cells, Pt.slots] at X41 l41 y41 z41 st41 hQ41
        obtain rfl : k41 = 0 := y41; obtain rfl : n41 = 0 := z41
        obtain ⟨rfl, N41q, e41q⟩ := hQ41
        have N41 : Fr n0 L41 := Eq.mpr (congrArg (Fr n0) l41) (Fr.app N0 N41q)
        obtain ⟨T42, h42, X42, e42, W42, st42⟩ := putF X41 hx hZ hown (host := "") (Or.inl (hw _ (List.mem_of_getElem? (i := 47) rfl))) Via.refl e41q Fh Ea (Or.inl (hw _ (List.mem_of_getElem? (i := 48) rfl))) (hw _ (List.mem_of_getElem? (i := 36) rfl)) (ty := .long) (by decide) rfl rfl (g := (mkF m 74 #[.val (.ref va), .val (.int vd), .val (.long ((10 : Int64) * lw)), .second] [(.long (((10 : Int64) * hw_) + (own_um lw (10 : Int64)))), (.ref va)])) rfl rfl (hb hby d16_74)
        have Fw42 : Fld Z h42 va "com/example/paniere/paniere/CompactDecimal$Digits" "high" "J" (.long (((10 : Int64) * hw_) + (own_um lw (10 : Int64)))) := Fh.same W42
        have c43 : Exa Z h42 va "com/example/paniere/paniere/CompactDecimal$Digits" := Ea.wr W42
        have c44 : Fld Z h42 va "com/example/paniere/paniere/CompactDecimal$Digits" "low" "J" (.long lw) := Fl_.other W42 (Or.inr (slot_ne (Or.inl (hw _ (List.mem_of_getElem? (i := 50) rfl))) (Or.inl (hw _ (List.mem_of_getElem? (i := 48) rfl))) (by decide) (t := .long) (t' := .long) (by decide) (by decide)))
        have c45 : Fld Z h42 va "com/example/paniere/paniere/CompactDecimal$Digits" "scale" "I" (.int vsc) := Fs.other W42 (Or.inr (slot_ne (Or.inl (hw _ (List.mem_of_getElem? (i := 52) rfl))) (Or.inl (hw _ (List.mem_of_getElem? (i := 48) rfl))) (by decide) (t := .int) (t' := .long) (by decide) (by decide)))
        have c46 : Fld Z h42 va "com/example/paniere/paniere/CompactDecimal$Digits" "significant" "I" (.int vsg) := Fg.other W42 (Or.inr (slot_ne (Or.inl (hw _ (List.mem_of_getElem? (i := 54) rfl))) (Or.inl (hw _ (List.mem_of_getElem? (i := 48) rfl))) (by decide) (t := .int) (t' := .long) (by decide) (by decide)))
        have Z42 : n0 ≤ h42.size := Nat.le_trans Z0 (Keep.of_wr W42).1
        have N42 := Fr.snoc X42 N41 g_va
        have K42 : Keep h0 h42 [va] := (Keep.refl h0 [va]).wr W42 (Or.inl (List.mem_of_getElem? (i := 0) rfl))
        obtain ⟨T47, h47, X47, e47, W47, st47⟩ := putF X42 hx hZ hown (host := "") (Or.inl (hw _ (List.mem_of_getElem? (i := 49) rfl))) Via.refl e42 c44 c43 (Or.inl (hw _ (List.mem_of_getElem? (i := 50) rfl))) (hw _ (List.mem_of_getElem? (i := 36) rfl)) (ty := .long) (by decide) rfl rfl (g := (mkF m 82 #[.val (.ref va), .val (.int vd), .val (.long ((10 : Int64) * lw)), .second] [(.long (((10 : Int64) * lw) + (vd.toInt64))), (.ref va)])) rfl rfl (hb hby d16_82)
        have Fw47 : Fld Z h47 va "com/example/paniere/paniere/CompactDecimal$Digits" "low" "J" (.long (((10 : Int64) * lw) + (vd.toInt64))) := c44.same W47
        have c48 : Exa Z h47 va "com/example/paniere/paniere/CompactDecimal$Digits" := c43.wr W47
        have c49 : Fld Z h47 va "com/example/paniere/paniere/CompactDecimal$Digits" "high" "J" (.long (((10 : Int64) * hw_) + (own_um lw (10 : Int64)))) := Fw42.other W47 (Or.inr (slot_ne (Or.inl (hw _ (List.mem_of_getElem? (i := 48) rfl))) (Or.inl (hw _ (List.mem_of_getElem? (i := 50) rfl))) (by decide) (t := .long) (t' := .long) (by decide) (by decide)))
        have c50 : Fld Z h47 va "com/example/paniere/paniere/CompactDecimal$Digits" "scale" "I" (.int vsc) := c45.other W47 (Or.inr (slot_ne (Or.inl (hw _ (List.mem_of_getElem? (i := 52) rfl))) (Or.inl (hw _ (List.mem_of_getElem? (i := 50) rfl))) (by decide) (t := .int) (t' := .long) (by decide) (by decide)))
        have c51 : Fld Z h47 va "com/example/paniere/paniere/CompactDecimal$Digits" "significant" "I" (.int vsg) := c46.other W47 (Or.inr (slot_ne (Or.inl (hw _ (List.mem_of_getElem? (i := 54) rfl))) (Or.inl (hw _ (List.mem_of_getElem? (i := 50) rfl))) (by decide) (t := .int) (t' := .long) (by decide) (by decide)))
        have Z47 : n0 ≤ h47.size := Nat.le_trans Z42 (Keep.of_wr W47).1
        have N47 := Fr.snoc X47 N42 g_va
        have K47 : Keep h0 h47 [va] := K42.wr W47 (Or.inl (List.mem_of_getElem? (i := 0) rfl))
        obtain ⟨T52, X52, e52, st52⟩ := getF X47 hx hZ hown (host := "") (Or.inl (hw _ (List.mem_of_getElem? (i := 47) rfl))) Via.refl e47 c49 (g := (mkF m 87 #[.val (.ref va), .val (.int vd), .val (.long ((10 : Int64) * lw)), .second] [(.ref va), (.ref va)])) rfl rfl (hb hby d16_87)
        obtain ⟨T53, X53, e53, st53⟩ := getF X52 hx hZ hown (host := "") (Or.inl (hw _ (List.mem_of_getElem? (i := 49) rfl))) Via.refl e52 Fw47 (g := (mkF m 92 #[.val (.ref va), .val (.int vd), .val (.long ((10 : Int64) * lw)), .second] [(.ref va), (.long ((10 : Int64) * lw)), (.long (((10 : Int64) * hw_) + (own_um lw (10 : Int64)))), (.ref va)])) rfl rfl (hb hby d16_92)
        obtain ⟨_, _, ⟨T54, L54, k54, n54⟩, -, X54, ⟨Lc54, hQ54, l54, y54, z54⟩, st54⟩ := callSN X53 hx (y := (⟨"com/example/paniere/paniere/CompactDecimal", "carryOut", "(JJ)J"⟩ : MethodName)) hown (own_mvMN hZ (hw _ (List.mem_of_getElem? (i := 102) rfl))) (mvT hZ (hw _ (List.mem_of_getElem? (i := 103) rfl))) (mvT hZ (hw _ (List.mem_of_getElem? (i := 96) rfl))) (mvT hZ (hw _ (List.mem_of_getElem? (i := 104) rfl))) (by decide) (backOf (W := 3) (rm20 l Z a0 hw [] ((10 : Int64) * lw) (((10 : Int64) * lw) + (vd.toInt64))  h47 n0 Z47 ) hZ (hw _ (List.mem_of_getElem? (i := 104) rfl)) (hw _ (List.mem_of_getElem? (i := 96) rfl)) (by decide) (by decide)) (g := (mkF m 95 #[.val (.ref va), .val (.int vd), .val (.long ((10 : Int64) * lw)), .second] [(.long (((10 : Int64) * lw) + (vd.toInt64))), (.long ((10 : Int64) * lw)), (.long (((10 : Int64) * hw_) + (own_um lw (10 : Int64)))), (.ref va)])) rfl (by rw [hml]; rfl) (argsL := [(.long ((10 : Int64) * lw)), (.long (((10 : Int64) * lw) + (vd.toInt64)))]) (rest := [(.long (((10 : Int64) * hw_) + (own_um lw (10 : Int64)))), (.ref va)]) (lenOf pd_0 rfl) rfl (by show 2 * 0 + _ ≤ _; exact Nat.le_of_eq rfl) (hb hby d16_95) (fun _ _ => ⟨rfl, e53, (by decide : 0 + 0 ≤ _), (by decide : 0 + 0 ≤ _)⟩)
        dsimp only [Pt.U, Pt.locs, Pt.cells, Pt.slots] at X54 l54 y54 z54 st54 hQ54
        obtain rfl : k54 = 0 := y54; obtain rfl : n54 = 0 := z54
        obtain ⟨rfl, N54q, e54q⟩ := hQ54
        have N54 : Fr n0 L54 := Eq.mpr (congrArg (Fr n0) l54) (Fr.app N47 N54q)
        obtain ⟨T55, h55, X55, e55, W55, st55⟩ := putF X54 hx hZ hown (host := "") (Or.inl (hw _ (List.mem_of_getElem? (i := 47) rfl))) Via.refl e54q c49 c48 (Or.inl (hw _ (List.mem_of_getElem? (i := 48) rfl))) (hw _ (List.mem_of_getElem? (i := 36) rfl)) (ty := .long) (by decide) rfl rfl (g := (mkF m 99 #[.val (.ref va), .val (.int vd), .val (.long ((10 : Int64) * lw)), .second] [(.long ((((10 : Int64) * hw_) + (own_um lw (10 : Int64))) + (own_co ((10 : Int64) * lw) (((10 : Int64) * lw) + (vd.toInt64))))), (.ref va)])) rfl rfl (hb hby d16_99)
        have Fw55 : Fld Z h55 va "com/example/paniere/paniere/CompactDecimal$Digits" "high" "J" (.long ((((10 : Int64) * hw_) + (own_um lw (10 : Int64))) + (own_co ((10 : Int64) * lw) (((10 : Int64) * lw) + (vd.toInt64))))) := c49.same W55
        have c56 : Exa Z h55 va "com/example/paniere/paniere/CompactDecimal$Digits" := c48.wr W55
        have c57 : Fld Z h55 va "com/example/paniere/paniere/CompactDecimal$Digits" "low" "J" (.long (((10 : Int64) * lw) + (vd.toInt64))) := Fw47.other W55 (Or.inr (slot_ne (Or.inl (hw _ (List.mem_of_getElem? (i := 50) rfl))) (Or.inl (hw _ (List.mem_of_getElem? (i := 48) rfl))) (by decide) (t := .long) (t' := .long) (by decide) (by decide)))
        have c58 : Fld Z h55 va "com/example/paniere/paniere/CompactDecimal$Digits" "scale" "I" (.int vsc) := c50.other W55 (Or.inr (slot_ne (Or.inl (hw _ (List.mem_of_getElem? (i := 52) rfl))) (Or.inl (hw _ (List.mem_of_getElem? (i := 48) rfl))) (by decide) (t := .int) (t' := .long) (by decide) (by decide)))
        have c59 : Fld Z h55 va "com/example/paniere/paniere/CompactDecimal$Digits" "significant" "I" (.int vsg) := c51.other W55 (Or.inr (slot_ne (Or.inl (hw _ (List.mem_of_getElem? (i := 54) rfl))) (Or.inl (hw _ (List.mem_of_getElem? (i := 48) rfl))) (by decide) (t := .int) (t' := .long) (by decide) (by decide)))
        have Z55 : n0 ≤ h55.size := Nat.le_trans Z47 (Keep.of_wr W55).1
        have N55 := Fr.snoc X55 N54 g_va
        have K55 : Keep h0 h55 [va] := K47.wr W55 (Or.inl (List.mem_of_getElem? (i := 0) rfl))
        obtain ⟨fs, hr, hrun, hended, hW, hsame⟩ := X55.leave (v := none) (fun _ => rfl) (hlocks := BodyLoose.notSynchronized Bd)
        refine ⟨_, _, pre30 _ ?_, hrun, hended, _, _, rfl, ?_, ⟨_, rfl⟩, hW, hsame.mono (by decide) (by decide)⟩
        ·
          show Steps p.tables e below (T29.setTop (mkF m 26 #[.val (.ref va), .val (.int vd), .unset, .unset] [(.int (lcmpW lw (100000000000000000 : Int64)))])) _
          refine XS.ifYes X29.here hx rfl (pc0 := 26) (pc' := 45) rfl (hb hby d16_26) rfl ((if0 _ _).trans (flt ((fun q => hc31 ((lw_lt _ _).mp q)) : ¬ ((lcmpW lw (100000000000000000 : Int64)) < (0 : Int32)))).2.1) (by decide) (by decide) ?_
          show Steps p.tables e below (T29.setTop (mkF m 45 #[.val (.ref va), .val (.int vd), .unset, .unset] [])) _
          refine X29.ldc2J hx hown (mvT hZ (hw _ (List.mem_of_getElem? (i := 89) rfl))) (g := (mkF m 45 #[.val (.ref va), .val (.int vd), .unset, .unset] [])) rfl (hb hby d16_45) ?_
          show Steps p.tables e below (T29.setTop (mkF m 48 #[.val (.ref va), .val (.int vd), .unset, .unset] [(.long (10 : Int64))])) _
          refine XS.aloadN X29.here hx rfl (hb hby d16_48) rfl rfl ?_
          show Steps p.tables e below (T29.setTop (mkF m 49 #[.val (.ref va), .val (.int vd), .unset, .unset] [(.ref va), (.long (10 : Int64))])) _
          refine st38 _ ?_
          show Steps p.tables e below (T38.setTop (mkF m 52 #[.val (.ref va), .val (.int vd), .unset, .unset] [(.long lw), (.long (10 : Int64))])) _
          refine XS.lmul X38.here hx rfl (hb hby d16_52) rfl ?_
          show Steps p.tables e below (T38.setTop (mkF m 53 #[.val (.ref va), .val (.int vd), .unset, .unset] [(.long ((10 : Int64) * lw))])) _
          refine XS.lstoreN X38.here hx rfl (hb hby d16_53) rfl (l' := #[.val (.ref va), .val (.int vd), .val (.long ((10 : Int64) * lw)), .second]) rfl ?_
          show Steps p.tables e below (T38.setTop (mkF m 54 #[.val (.ref va), .val (.int vd), .val (.long ((10 : Int64) * lw)), .second] [])) _
          refine XS.aloadN X38.here hx rfl (hb hby d16_54) rfl rfl ?_
          show Steps p.tables e below (T38.setTop (mkF m 55 #[.val (.ref va), .val (.int vd), .val (.long ((10 : Int64) * lw)), .second] [(.ref va)])) _
          refine X38.ldc2J hx hown (mvT hZ (hw _ (List.mem_of_getElem? (i := 89) rfl))) (g := (mkF m 55 #[.val (.ref va), .val (.int vd), .val (.long ((10 : Int64) * lw)), .second] [(.ref va)])) rfl (hb hby d16_55) ?_
          show Steps p.tables e below (T38.setTop (mkF m 58 #[.val (.ref va), .val (.int vd), .val (.long ((10 : Int64) * lw)), .second] [(.long (10 : Int64)), (.ref va)])) _
          refine XS.aloadN X38.here hx rfl (hb hby d16_58) rfl rfl ?_
          show Steps p.tables e below (T38.setTop (mkF m 59 #[.val (.ref va), .val (.int vd), .val (.long ((10 : Int64) * lw)), .second] [(.ref va), (.long (10 : Int64)), (.ref va)])) _
          refine st39 _ ?_
          show Steps p.tables e below (T39.setTop (mkF m 62 #[.val (.ref va), .val (.int vd), .val (.long ((10 : Int64) * lw)), .second] [(.long hw_), (.long (10 : Int64)), (.ref va)])) _
          refine XS.lmul X39.here hx rfl (hb hby d16_62) rfl ?_
          show Steps p.tables e below (T39.setTop (mkF m 63 #[.val (.ref va), .val (.int vd), .val (.long ((10 : Int64) * lw)), .second] [(.long ((10 : Int64) * hw_)), (.ref va)])) _
          refine XS.aloadN X39.here hx rfl (hb hby d16_63) rfl rfl ?_
          show Steps p.tables e below (T39.setTop (mkF m 64 #[.val (.ref va), .val (.int vd), .val (.long ((10 : Int64) * lw)), .second] [(.ref va), (.long ((10 : Int64) * hw_)), (.ref va)])) _
          refine st40 _ ?_
          show Steps p.tables e below (T40.setTop (mkF m 67 #[.val (.ref va), .val (.int vd), .val (.long ((10 : Int64) * lw)), .second] [(.long lw), (.long ((10 : Int64) * hw_)), (.ref va)])) _
          refine X40.ldc2J hx hown (mvT hZ (hw _ (List.mem_of_getElem? (i := 89) rfl))) (g := (mkF m 67 #[.val (.ref va), .val (.int vd), .val (.long ((10 : Int64) * lw)), .second] [(.long lw), (.long ((10 : Int64) * hw_)), (.ref va)])) rfl (hb hby d16_67) ?_
          show Steps p.tables e below (T40.setTop (mkF m 70 #[.val (.ref va), .val (.int vd), .val (.long ((10 : Int64) * lw)), .second] [(.long (10 : Int64)), (.long lw), (.long ((10 : Int64) * hw_)), (.ref va)])) _
          refine st41.trans ?_
          show Steps p.tables e below (T41.setTop (mkF m 73 #[.val (.ref va), .val (.int vd), .val (.long ((10 : Int64) * lw)), .second] [(.long (own_um lw (10 : Int64))), (.long ((10 : Int64) * hw_)), (.ref va)])) _
          refine XS.ladd X41.here hx rfl (hb hby d16_73) rfl ?_
          show Steps p.tables e below (T41.setTop (mkF m 74 #[.val (.ref va), .val (.int vd), .val (.long ((10 : Int64) * lw)), .second] [(.long (((10 : Int64) * hw_) + (own_um lw (10 : Int64)))), (.ref va)])) _
          refine st42 _ ?_
          show Steps p.tables e below (T42.setTop (mkF m 77 #[.val (.ref va), .val (.int vd), .val (.long ((10 : Int64) * lw)), .second] [])) _
          refine XS.aloadN X42.here hx rfl (hb hby d16_77) rfl rfl ?_
          show Steps p.tables e below (T42.setTop (mkF m 78 #[.val (.ref va), .val (.int vd), .val (.long ((10 : Int64) * lw)), .second] [(.ref va)])) _
          refine XS.lloadN X42.here hx rfl (hb hby d16_78) rfl ?_
          show Steps p.tables e below (T42.setTop (mkF m 79 #[.val (.ref va), .val (.int vd), .val (.long ((10 : Int64) * lw)), .second] [(.long ((10 : Int64) * lw)), (.ref va)])) _
          refine XS.iloadN X42.here hx rfl (hb hby d16_79) rfl ?_
          show Steps p.tables e below (T42.setTop (mkF m 80 #[.val (.ref va), .val (.int vd), .val (.long ((10 : Int64) * lw)), .second] [(.int vd), (.long ((10 : Int64) * lw)), (.ref va)])) _
          refine XS.i2l X42.here hx rfl (hb hby d16_80) rfl ?_
          show Steps p.tables e below (T42.setTop (mkF m 81 #[.val (.ref va), .val (.int vd), .val (.long ((10 : Int64) * lw)), .second] [(.long (vd.toInt64)), (.long ((10 : Int64) * lw)), (.ref va)])) _
          refine XS.ladd X42.here hx rfl (hb hby d16_81) rfl ?_
          show Steps p.tables e below (T42.setTop (mkF m 82 #[.val (.ref va), .val (.int vd), .val (.long ((10 : Int64) * lw)), .second] [(.long (((10 : Int64) * lw) + (vd.toInt64))), (.ref va)])) _
          refine st47 _ ?_
          show Steps p.tables e below (T47.setTop (mkF m 85 #[.val (.ref va), .val (.int vd), .val (.long ((10 : Int64) * lw)), .second] [])) _
          refine XS.aloadN X47.here hx rfl (hb hby d16_85) rfl rfl ?_
          show Steps p.tables e below (T47.setTop (mkF m 86 #[.val (.ref va), .val (.int vd), .val (.long ((10 : Int64) * lw)), .second] [(.ref va)])) _
          refine XS.dup X47.here hx rfl (hb hby d16_86) rfl rfl ?_
          show Steps p.tables e below (T47.setTop (mkF m 87 #[.val (.ref va), .val (.int vd), .val (.long ((10 : Int64) * lw)), .second] [(.ref va), (.ref va)])) _
          refine st52 _ ?_
          show Steps p.tables e below (T52.setTop (mkF m 90 #[.val (.ref va), .val (.int vd), .val (.long ((10 : Int64) * lw)), .second] [(.long (((10 : Int64) * hw_) + (own_um lw (10 : Int64)))), (.ref va)])) _
          refine XS.lloadN X52.here hx rfl (hb hby d16_90) rfl ?_
          show Steps p.tables e below (T52.setTop (mkF m 91 #[.val (.ref va), .val (.int vd), .val (.long ((10 : Int64) * lw)), .second] [(.long ((10 : Int64) * lw)), (.long (((10 : Int64) * hw_) + (own_um lw (10 : Int64)))), (.ref va)])) _
          refine XS.aloadN X52.here hx rfl (hb hby d16_91) rfl rfl ?_
          show Steps p.tables e below (T52.setTop (mkF m 92 #[.val (.ref va), .val (.int vd), .val (.long ((10 : Int64) * lw)), .second] [(.ref va), (.long ((10 : Int64) * lw)), (.long (((10 : Int64) * hw_) + (own_um lw (10 : Int64)))), (.ref va)])) _
          refine st53 _ ?_
          show Steps p.tables e below (T53.setTop (mkF m 95 #[.val (.ref va), .val (.int vd), .val (.long ((10 : Int64) * lw)), .second] [(.long (((10 : Int64) * lw) + (vd.toInt64))), (.long ((10 : Int64) * lw)), (.long (((10 : Int64) * hw_) + (own_um lw (10 : Int64)))), (.ref va)])) _
          refine st54.trans ?_
          show Steps p.tables e below (T54.setTop (mkF m 98 #[.val (.ref va), .val (.int vd), .val (.long ((10 : Int64) * lw)), .second] [(.long (own_co ((10 : Int64) * lw) (((10 : Int64) * lw) + (vd.toInt64)))), (.long (((10 : Int64) * hw_) + (own_um lw (10 : Int64)))), (.ref va)])) _
          refine XS.ladd X54.here hx rfl (hb hby d16_98) rfl ?_
          show Steps p.tables e below (T54.setTop (mkF m 99 #[.val (.ref va), .val (.int vd), .val (.long ((10 : Int64) * lw)), .second] [(.long ((((10 : Int64) * hw_) + (own_um lw (10 : Int64))) + (own_co ((10 : Int64) * lw) (((10 : Int64) * lw) + (vd.toInt64))))), (.ref va)])) _
          refine st55 _ ?_
          show Steps p.tables e below (T55.setTop (mkF m 102 #[.val (.ref va), .val (.int vd), .val (.long ((10 : Int64) * lw)), .second] [])) _
          exact X55.returnOut hx Bd.returns (hb hby d16_102) hr
        ·
          show Q16 Z va vd hw_ lw vsc vsg h0 n0 _ T55.heap _
          rw [e55]
          exact ⟨rfl, N55, K55, c56, _, _, Fw55, c57, c58, c59⟩
  ·
    obtain ⟨T60, X60, e60, st60⟩ := getF X1 hx hZ hown (host := "") (Or.inl (hw _ (List.mem_of_getElem? (i := 49) rfl))) Via.refl e1 Fl_ (g := (mkF m 49 #[.val (.ref va), .val (.int vd), .unset, .unset] [(.ref va), (.long (10 : Int64))])) rfl rfl (hb hby d16_49)
    obtain ⟨T61, X61, e61, st61⟩ := getF X60 hx hZ hown (host := "") (Or.inl (hw _ (List.mem_of_getElem? (i := 47) rfl))) Via.refl e60 Fh (g := (mkF m 59 #[.val (.ref va), .val (.int vd), .val (.long ((10 : Int64) * lw)), .second] [(.ref va), (.long (10 : Int64)), (.ref va)])) rfl rfl (hb hby d16_59)
    obtain ⟨T62, X62, e62, st62⟩ := getF X61 hx hZ hown (host := "") (Or.inl (hw _ (List.mem_of_getElem? (i := 49) rfl))) Via.refl e61 Fl_ (g := (mkF m 64 #[.val (.ref va), .val (.int vd), .val (.long ((10 : Int64) * lw)), .second] [(.ref va), (.long ((10 : Int64) * hw_)), (.ref va)])) rfl rfl (hb hby d16_64)
    obtain ⟨_, _, ⟨T63, L63, k63, n63⟩, -, X63, ⟨Lc63, hQ63, l63, y63, z63⟩, st63⟩ := callSN X62 hx (y := (⟨"com/example/paniere/paniere/CompactDecimal", "unsignedMultiplyHigh", "(JJ)J"⟩ : MethodName)) hown (own_mvMN hZ (hw _ (List.mem_of_getElem? (i := 94) rfl))) (mvT hZ (hw _ (List.mem_of_getElem? (i := 95) rfl))) (mvT hZ (hw _ (List.mem_of_getElem? (i := 96) rfl))) (mvT hZ (hw _ (List.mem_of_getElem? (i := 97) rfl))) (by decide) (backOf (W := 3) (rm18 l Z a0 hw [] lw (10 : Int64)  h0 n0 Z0 ) hZ (hw _ (List.mem_of_getElem? (i := 97) rfl)) (hw _ (List.mem_of_getElem? (i := 96) rfl)) (by decide) (by decide)) (g := (mkF m 70 #[.val (.ref va), .val (.int vd), .val (.long ((10 : Int64) * lw)), .second] [(.long (10 : Int64)), (.long lw), (.long ((10 : Int64) * hw_)), (.ref va)])) rfl (by rw [hml]; rfl) (argsL := [(.long lw), (.long (10 : Int64))]) (rest := [(.long ((10 : Int64) * hw_)), (.ref va)]) (lenOf pd_0 rfl) rfl (by show 2 * 0 + _ ≤ _; exact Nat.le_of_eq rfl) (hb hby d16_70) (fun _ _ => ⟨rfl, e62, (by decide : 0 + 0 ≤ _), (by decide : 0 + 0 ≤ _)⟩)
    dsimp only [Pt.U, Pt.locs, Pt.cells, Pt.slots] at X63 l63 y63 z63 st63 hQ63
    obtain rfl : k63 = 0 := y63; obtain rfl : n63 = 0 := z63
    obtain ⟨rfl, N63q, e63q⟩ := hQ63
    have N63 : Fr n0 L63 := Eq.mpr (congrArg (Fr n0) l63) (Fr.app N0 N63q)
    obtain ⟨T64, h64, X64, e64, W64, st64⟩ := putF X63 hx hZ hown (host := "") (Or.inl (hw _ (List.mem_of_getElem? (i := 47) rfl))) Via.refl e63q Fh Ea (Or.inl (hw _ (List.mem_of_getElem? (i := 48) rfl))) (hw _ (List.mem_of_getElem? (i := 36) rfl)) (ty := .long) (by decide) rfl rfl (g := (mkF m 74 #[.val (.ref va), .val (.int vd), .val (.long ((10 : Int64) * lw)), .second] [(.long (((10 : Int64) * hw_) + (own_um lw (10 : Int64)))), (.ref va)])) rfl rfl (hb hby d16_74)
    have Fw64 : Fld Z h64 va "com/example/paniere/paniere/CompactDecimal$Digits" "high" "J" (.long (((10 : Int64) * hw_) + (own_um lw (10 : Int64)))) := Fh.same W64
    have c65 : Exa Z h64 va "com/example/paniere/paniere/CompactDecimal$Digits" := Ea.wr W64
    have c66 : Fld Z h64 va "com/example/paniere/paniere/CompactDecimal$Digits" "low" "J" (.long lw) := Fl_.other W64 (Or.inr (slot_ne (Or.inl (hw _ (List.mem_of_getElem? (i := 50) rfl))) (Or.inl (hw _ (List.mem_of_getElem? (i := 48) rfl))) (by decide) (t := .long) (t' := .long) (by decide) (by decide)))
    have c67 : Fld Z h64 va "com/example/paniere/paniere/CompactDecimal$Digits" "scale" "I" (.int vsc) := Fs.other W64 (Or.inr (slot_ne (Or.inl (hw _ (List.mem_of_getElem? (i := 52) rfl))) (Or.inl (hw _ (List.mem_of_getElem? (i := 48) rfl))) (by decide) (t := .int) (t' := .long) (by decide) (by decide)))
    have c68 : Fld Z h64 va "com/example/paniere/paniere/CompactDecimal$Digits" "significant" "I" (.int vsg) := Fg.other W64 (Or.inr (slot_ne (Or.inl (hw _ (List.mem_of_getElem? (i := 54) rfl))) (Or.inl (hw _ (List.mem_of_getElem? (i := 48) rfl))) (by decide) (t := .int) (t' := .long) (by decide) (by decide)))
    have Z64 : n0 ≤ h64.size := Nat.le_trans Z0 (Keep.of_wr W64).1
    have N64 := Fr.snoc X64 N63 g_va
    have K64 : Keep h0 h64 [va] := (Keep.refl h0 [va]).wr W64 (Or.inl (List.mem_of_getElem? (i := 0) rfl))
    obtain ⟨T69, h69, X69, e69, W69, st69⟩ := putF X64 hx hZ hown (host := "") (Or.inl (hw _ (List.mem_of_getElem? (i := 49) rfl))) Via.refl e64 c66 c65 (Or.inl (hw _ (List.mem_of_getElem? (i := 50) rfl))) (hw _ (List.mem_of_getElem? (i := 36) rfl)) (ty := .long) (by decide) rfl rfl (g := (mkF m 82 #[.val (.ref va), .val (.int vd), .val (.long ((10 : Int64) * lw)), .second] [(.long (((10 : Int64) * lw) + (vd.toInt64))), (.ref va)])) rfl rfl (hb hby d16_82)
    have Fw69 : Fld Z h69 va "com/example/paniere/paniere/CompactDecimal$Digits" "low" "J" (.long (((10 : Int64) * lw) + (vd.toInt64))) := c66.same W69
    have c70 : Exa Z h69 va "com/example/paniere/paniere/CompactDecimal$Digits" := c65.wr W69
    have c71 : Fld Z h69 va "com/example/paniere/paniere/CompactDecimal$Digits" "high" "J" (.long (((10 : Int64) * hw_) + (own_um lw (10 : Int64)))) := Fw64.other W69 (Or.inr (slot_ne (Or.inl (hw _ (List.mem_of_getElem? (i := 48) rfl))) (Or.inl (hw _ (List.mem_of_getElem? (i := 50) rfl))) (by decide) (t := .long) (t' := .long) (by decide) (by decide)))
    have c72 : Fld Z h69 va "com/example/paniere/paniere/CompactDecimal$Digits" "scale" "I" (.int vsc) := c67.other W69 (Or.inr (slot_ne (Or.inl (hw _ (List.mem_of_getElem? (i := 52) rfl))) (Or.inl (hw _ (List.mem_of_getElem? (i := 50) rfl))) (by decide) (t := .int) (t' := .long) (by decide) (by decide)))
    have c73 : Fld Z h69 va "com/example/paniere/paniere/CompactDecimal$Digits" "significant" "I" (.int vsg) := c68.other W69 (Or.inr (slot_ne (Or.inl (hw _ (List.mem_of_getElem? (i := 54) rfl))) (Or.inl (hw _ (List.mem_of_getElem? (i := 50) rfl))) (by decide) (t := .int) (t' := .long) (by decide) (by decide)))
    have Z69 : n0 ≤ h69.size := Nat.le_trans Z64 (Keep.of_wr W69).1
    have N69 := Fr.snoc X69 N64 g_va
    have K69 : Keep h0 h69 [va] := K64.wr W69 (Or.inl (List.mem_of_getElem? (i := 0) rfl))
    obtain ⟨T74, X74, e74, st74⟩ := getF X69 hx hZ hown (host := "") (Or.inl (hw _ (List.mem_of_getElem? (i := 47) rfl))) Via.refl e69 c71 (g := (mkF m 87 #[.val (.ref va), .val (.int vd), .val (.long ((10 : Int64) * lw)), .second] [(.ref va), (.ref va)])) rfl rfl (hb hby d16_87)
    obtain ⟨T75, X75, e75, st75⟩ := getF X74 hx hZ hown (host := "") (Or.inl (hw _ (List.mem_of_getElem? (i := 49) rfl))) Via.refl e74 Fw69 (g := (mkF m 92 #[.val (.ref va), .val (.int vd), .val (.long ((10 : Int64) * lw)), .second] [(.ref va), (.long ((10 : Int64) * lw)), (.long (((10 : Int64) * hw_) + (own_um lw (10 : Int64)))), (.ref va)])) rfl rfl (hb hby d16_92)
    obtain ⟨_, _, ⟨T76, L76, k76, n76⟩, -, X76, ⟨Lc76, hQ76, l76, y76, z76⟩, st76⟩ := callSN X75 hx (y := (⟨"com/example/paniere/paniere/CompactDecimal", "carryOut", "(JJ)J"⟩ : MethodName)) hown (own_mvMN hZ (hw _ (List.mem_of_getElem? (i := 102) rfl))) (mvT hZ (hw _ (List.mem_of_getElem? (i := 103) rfl))) (mvT hZ (hw _ (List.mem_of_getElem? (i := 96) rfl))) (mvT hZ (hw _ (List.mem_of_getElem? (i := 104) rfl))) (by decide) (backOf (W := 3) (rm20 l Z a0 hw [] ((10 : Int64) * lw) (((10 : Int64) * lw) + (vd.toInt64))  h69 n0 Z69 ) hZ (hw _ (List.mem_of_getElem? (i := 104) rfl)) (hw _ (List.mem_of_getElem? (i := 96) rfl)) (by decide) (by decide)) (g := (mkF m 95 #[.val (.ref va), .val (.int vd), .val (.long ((10 : Int64) * lw)), .second] [(.long (((10 : Int64) * lw) + (vd.toInt64))), (.long ((10 : Int64) * lw)), (.long (((10 : Int64) * hw_) + (own_um lw (10 : Int64)))), (.ref va)])) rfl (by rw [hml]; rfl) (argsL := [(.long ((10 : Int64) * lw)), (.long (((10 : Int64) * lw) + (vd.toInt64)))]) (rest := [(.long (((10 : Int64) * hw_) + (own_um lw (10 : Int64)))), (.ref va)]) (lenOf pd_0 rfl) rfl (by show 2 * 0 + _ ≤ _; exact Nat.le_of_eq rfl) (hb hby d16_95) (fun _ _ => ⟨rfl, e75, (by decide : 0 + 0 ≤ _), (by decide : 0 + 0 ≤ _)⟩)
    dsimp only [Pt.U, Pt.locs, Pt.cells, Pt.slots] at X76 l76 y76 z76 st76 hQ76
    obtain rfl : k76 = 0 := y76; obtain rfl : n76 = 0 := z76
    obtain ⟨rfl, N76q, e76q⟩ := hQ76
    have N76 : Fr n0 L76 := Eq.mpr (congrArg (Fr n0) l76) (Fr.app N69 N76q)
    obtain ⟨T77, h77, X77, e77, W77, st77⟩ := putF X76 hx hZ hown (host := "") (Or.inl (hw _ (List.mem_of_getElem? (i := 47) rfl))) Via.refl e76q c71 c70 (Or.inl (hw _ (List.mem_of_getElem? (i := 48) rfl))) (hw _ (List.mem_of_getElem? (i := 36) rfl)) (ty := .long) (by decide) rfl rfl (g := (mkF m 99 #[.val (.ref va), .val (.int vd), .val (.long ((10 : Int64) * lw)), .second] [(.long ((((10 : Int64) * hw_) + (own_um lw (10 : Int64))) + (own_co ((10 : Int64) * lw) (((10 : Int64) * lw) + (vd.toInt64))))), (.ref va)])) rfl rfl (hb hby d16_99)
    have Fw77 : Fld Z h77 va "com/example/paniere/paniere/CompactDecimal$Digits" "high" "J" (.long ((((10 : Int64) * hw_) + (own_um lw (10 : Int64))) + (own_co ((10 : Int64) * lw) (((10 : Int64) * lw) + (vd.toInt64))))) := c71.same W77
    have c78 : Exa Z h77 va "com/example/paniere/paniere/CompactDecimal$Digits" := c70.wr W77
    have c79 : Fld Z h77 va "com/example/paniere/paniere/CompactDecimal$Digits" "low" "J" (.long (((10 : Int64) * lw) + (vd.toInt64))) := Fw69.other W77 (Or.inr (slot_ne (Or.inl (hw _ (List.mem_of_getElem? (i := 50) rfl))) (Or.inl (hw _ (List.mem_of_getElem? (i := 48) rfl))) (by decide) (t := .long) (t' := .long) (by decide) (by decide)))
    have c80 : Fld Z h77 va "com/example/paniere/paniere/CompactDecimal$Digits" "scale" "I" (.int vsc) := c72.other W77 (Or.inr (slot_ne (Or.inl (hw _ (List.mem_of_getElem? (i := 52) rfl))) (Or.inl (hw _ (List.mem_of_getElem? (i := 48) rfl))) (by decide) (t := .int) (t' := .long) (by decide) (by decide)))
    have c81 : Fld Z h77 va "com/example/paniere/paniere/CompactDecimal$Digits" "significant" "I" (.int vsg) := c73.other W77 (Or.inr (slot_ne (Or.inl (hw _ (List.mem_of_getElem? (i := 54) rfl))) (Or.inl (hw _ (List.mem_of_getElem? (i := 48) rfl))) (by decide) (t := .int) (t' := .long) (by decide) (by decide)))
    have Z77 : n0 ≤ h77.size := Nat.le_trans Z69 (Keep.of_wr W77).1
    have N77 := Fr.snoc X77 N76 g_va
    have K77 : Keep h0 h77 [va] := K69.wr W77 (Or.inl (List.mem_of_getElem? (i := 0) rfl))
    obtain ⟨fs, hr, hrun, hended, hW, hsame⟩ := X77.leave (v := none) (fun _ => rfl) (hlocks := BodyLoose.notSynchronized Bd)
    refine ⟨_, _, pre2 _ ?_, hrun, hended, _, _, rfl, ?_, ⟨_, rfl⟩, hW, hsame.mono (by decide) (by decide)⟩
    ·
      show Steps p.tables e below (T1.setTop (mkF m 6 #[.val (.ref va), .val (.int vd), .unset, .unset] [(.int (lcmpW hw_ (0 : Int64)))])) _
      refine XS.ifYes X1.here hx rfl (pc0 := 6) (pc' := 45) rfl (hb hby d16_6) rfl ((if0 _ _).trans (feq ((fun q => hc3 ((lw_eq _ _).mp q)) : ¬ ((lcmpW hw_ (0 : Int64)) = (0 : Int32)))).2) (by decide) (by decide) ?_
      show Steps p.tables e below (T1.setTop (mkF m 45 #[.val (.ref va), .val (.int vd), .unset, .unset] [])) _
      refine X1.ldc2J hx hown (mvT hZ (hw _ (List.mem_of_getElem? (i := 89) rfl))) (g := (mkF m 45 #[.val (.ref va), .val (.int vd), .unset, .unset] [])) rfl (hb hby d16_45) ?_
      show Steps p.tables e below (T1.setTop (mkF m 48 #[.val (.ref va), .val (.int vd), .unset, .unset] [(.long (10 : Int64))])) _
      refine XS.aloadN X1.here hx rfl (hb hby d16_48) rfl rfl ?_
      show Steps p.tables e below (T1.setTop (mkF m 49 #[.val (.ref va), .val (.int vd), .unset, .unset] [(.ref va), (.long (10 : Int64))])) _
      refine st60 _ ?_
      show Steps p.tables e below (T60.setTop (mkF m 52 #[.val (.ref va), .val (.int vd), .unset, .unset] [(.long lw), (.long (10 : Int64))])) _
      refine XS.lmul X60.here hx rfl (hb hby d16_52) rfl ?_
      show Steps p.tables e below (T60.setTop (mkF m 53 #[.val (.ref va), .val (.int vd), .unset, .unset] [(.long ((10 : Int64) * lw))])) _
      refine XS.lstoreN X60.here hx rfl (hb hby d16_53) rfl (l' := #[.val (.ref va), .val (.int vd), .val (.long ((10 : Int64) * lw)), .second]) rfl ?_
      show Steps p.tables e below (T60.setTop (mkF m 54 #[.val (.ref va), .val (.int vd), .val (.long ((10 : Int64) * lw)), .second] [])) _
      refine XS.aloadN X60.here hx rfl (hb hby d16_54) rfl rfl ?_
      show Steps p.tables e below (T60.setTop (mkF m 55 #[.val (.ref va), .val (.int vd), .val (.long ((10 : Int64) * lw)), .second] [(.ref va)])) _
      refine X60.ldc2J hx hown (mvT hZ (hw _ (List.mem_of_getElem? (i := 89) rfl))) (g := (mkF m 55 #[.val (.ref va), .val (.int vd), .val (.long ((10 : Int64) * lw)), .second] [(.ref va)])) rfl (hb hby d16_55) ?_
      show Steps p.tables e below (T60.setTop (mkF m 58 #[.val (.ref va), .val (.int vd), .val (.long ((10 : Int64) * lw)), .second] [(.long (10 : Int64)), (.ref va)])) _
      refine XS.aloadN X60.here hx rfl (hb hby d16_58) rfl rfl ?_
      show Steps p.tables e below (T60.setTop (mkF m 59 #[.val (.ref va), .val (.int vd), .val (.long ((10 : Int64) * lw)), .second] [(.ref va), (.long (10 : Int64)), (.ref va)])) _
      refine st61 _ ?_
      show Steps p.tables e below (T61.setTop (mkF m 62 #[.val (.ref va), .val (.int vd), .val (.long ((10 : Int64) * lw)), .second] [(.long hw_), (.long (10 : Int64)), (.ref va)])) _
      refine XS.lmul X61.here hx rfl (hb hby d16_62) rfl ?_
      show Steps p.tables e below (T61.setTop (mkF m 63 #[.val (.ref va), .val (.int vd), .val (.long ((10 : Int64) * lw)), .second] [(.long ((10 : Int64) * hw_)), (.ref va)])) _
      refine XS.aloadN X61.here hx rfl (hb hby d16_63) rfl rfl ?_
      show Steps p.tables e below (T61.setTop (mkF m 64 #[.val (.ref va), .val (.int vd), .val (.long ((10 : Int64) * lw)), .second] [(.ref va), (.long ((10 : Int64) * hw_)), (.ref va)])) _
      refine st62 _ ?_
      show Steps p.tables e below (T62.setTop (mkF m 67 #[.val (.ref va), .val (.int vd), .val (.long ((10 : Int64) * lw)), .second] [(.long lw), (.long ((10 : Int64) * hw_)), (.ref va)])) _
      refine X62.ldc2J hx hown (mvT hZ (hw _ (List.mem_of_getElem? (i := 89) rfl))) (g := (mkF m 67 #[.val (.ref va), .val (.int vd), .val (.long ((10 : Int64) * lw)), .second] [(.long lw), (.long ((10 : Int64) * hw_)), (.ref va)])) rfl (hb hby d16_67) ?_
      show Steps p.tables e below (T62.setTop (mkF m 70 #[.val (.ref va), .val (.int vd), .val (.long ((10 : Int64) * lw)), .second] [(.long (10 : Int64)), (.long lw), (.long ((10 : Int64) * hw_)), (.ref va)])) _
      refine st63.trans ?_
      show Steps p.tables e below (T63.setTop (mkF m 73 #[.val (.ref va), .val (.int vd), .val (.long ((10 : Int64) * lw)), .second] [(.long (own_um lw (10 : Int64))), (.long ((10 : Int64) * hw_)), (.ref va)])) _
      refine XS.ladd X63.here hx rfl (hb hby d16_73) rfl ?_
      show Steps p.tables e below (T63.setTop (mkF m 74 #[.val (.ref va), .val (.int vd), .val (.long ((10 : Int64) * lw)), .second] [(.long (((10 : Int64) * hw_) + (own_um lw (10 : Int64)))), (.ref va)])) _
      refine st64 _ ?_
      show Steps p.tables e below (T64.setTop (mkF m 77 #[.val (.ref va), .val (.int vd), .val (.long ((10 : Int64) * lw)), .second] [])) _
      refine XS.aloadN X64.here hx rfl (hb hby d16_77) rfl rfl ?_
      show Steps p.tables e below (T64.setTop (mkF m 78 #[.val (.ref va), .val (.int vd), .val (.long ((10 : Int64) * lw)), .second] [(.ref va)])) _
      refine XS.lloadN X64.here hx rfl (hb hby d16_78) rfl ?_
      show Steps p.tables e below (T64.setTop (mkF m 79 #[.val (.ref va), .val (.int vd), .val (.long ((10 : Int64) * lw)), .second] [(.long ((10 : Int64) * lw)), (.ref va)])) _
      refine XS.iloadN X64.here hx rfl (hb hby d16_79) rfl ?_
      show Steps p.tables e below (T64.setTop (mkF m 80 #[.val (.ref va), .val (.int vd), .val (.long ((10 : Int64) * lw)), .second] [(.int vd), (.long ((10 : Int64) * lw)), (.ref va)])) _
      refine XS.i2l X64.here hx rfl (hb hby d16_80) rfl ?_
      show Steps p.tables e below (T64.setTop (mkF m 81 #[.val (.ref va), .val (.int vd), .val (.long ((10 : Int64) * lw)), .second] [(.long (vd.toInt64)), (.long ((10 : Int64) * lw)), (.ref va)])) _
      refine XS.ladd X64.here hx rfl (hb hby d16_81) rfl ?_
      show Steps p.tables e below (T64.setTop (mkF m 82 #[.val (.ref va), .val (.int vd), .val (.long ((10 : Int64) * lw)), .second] [(.long (((10 : Int64) * lw) + (vd.toInt64))), (.ref va)])) _
      refine st69 _ ?_
      show Steps p.tables e below (T69.setTop (mkF m 85 #[.val (.ref va), .val (.int vd), .val (.long ((10 : Int64) * lw)), .second] [])) _
      refine XS.aloadN X69.here hx rfl (hb hby d16_85) rfl rfl ?_
      show Steps p.tables e below (T69.setTop (mkF m 86 #[.val (.ref va), .val (.int vd), .val (.long ((10 : Int64) * lw)), .second] [(.ref va)])) _
      refine XS.dup X69.here hx rfl (hb hby d16_86) rfl rfl ?_
      show Steps p.tables e below (T69.setTop (mkF m 87 #[.val (.ref va), .val (.int vd), .val (.long ((10 : Int64) * lw)), .second] [(.ref va), (.ref va)])) _
      refine st74 _ ?_
      show Steps p.tables e below (T74.setTop (mkF m 90 #[.val (.ref va), .val (.int vd), .val (.long ((10 : Int64) * lw)), .second] [(.long (((10 : Int64) * hw_) + (own_um lw (10 : Int64)))), (.ref va)])) _
      refine XS.lloadN X74.here hx rfl (hb hby d16_90) rfl ?_
      show Steps p.tables e below (T74.setTop (mkF m 91 #[.val (.ref va), .val (.int vd), .val (.long ((10 : Int64) * lw)), .second] [(.long ((10 : Int64) * lw)), (.long (((10 : Int64) * hw_) + (own_um lw (10 : Int64)))), (.ref va)])) _
      refine XS.aloadN X74.here hx rfl (hb hby d16_91) rfl rfl ?_
      show Steps p.tables e below (T74.setTop (mkF m 92 #[.val (.ref va), .val (.int vd), .val (.long ((10 : Int64) * lw)), .second] [(.ref va), (.long ((10 : Int64) * lw)), (.long (((10 : Int64) * hw_) + (own_um lw (10 : Int64)))), (.ref va)])) _
      refine st75 _ ?_
      show Steps p.tables e below (T75.setTop (mkF m 95 #[.val (.ref va), .val (.int vd), .val (.long ((10 : Int64) * lw)), .second] [(.long (((10 : Int64) * lw) + (vd.toInt64))), (.long ((10 : Int64) * lw)), (.long (((10 : Int64) * hw_) + (own_um lw (10 : Int64)))), (.ref va)])) _
      refine st76.trans ?_
      show Steps p.tables e below (T76.setTop (mkF m 98 #[.val (.ref va), .val (.int vd), .val (.long ((10 : Int64) * lw)), .second] [(.long (own_co ((10 : Int64) * lw) (((10 : Int64) * lw) + (vd.toInt64)))), (.long (((10 : Int64) * hw_) + (own_um lw (10 : Int64)))), (.ref va)])) _
      refine XS.ladd X76.here hx rfl (hb hby d16_98) rfl ?_
      show Steps p.tables e below (T76.setTop (mkF m 99 #[.val (.ref va), .val (.int vd), .val (.long ((10 : Int64) * lw)), .second] [(.long ((((10 : Int64) * hw_) + (own_um lw (10 : Int64))) + (own_co ((10 : Int64) * lw) (((10 : Int64) * lw) + (vd.toInt64))))), (.ref va)])) _
      refine st77 _ ?_
      show Steps p.tables e below (T77.setTop (mkF m 102 #[.val (.ref va), .val (.int vd), .val (.long ((10 : Int64) * lw)), .second] [])) _
      exact X77.returnOut hx Bd.returns (hb hby d16_102) hr
    ·
      show Q16 Z va vd hw_ lw vsc vsg h0 n0 _ T77.heap _
      rw [e77]
      exact ⟨rfl, N77, K77, c78, _, _, Fw77, c79, c80, c81⟩
theorem own_nat32 {i : Nat} (h : i < 2 ^ 31) : (Int32.ofNat i).toNatClampNeg = i := by
  show (Int32.ofNat i).toInt.toNat = i
  rw [Int32.toInt_ofNat_small h]; rfl
theorem own_lt32 {i j : Nat} (hi : i < 2 ^ 31) (hj : j < 2 ^ 31) : (Int32.ofNat i) < (Int32.ofNat j) ↔ i < j := by
  rw [Int32.lt_iff_toInt_lt, Int32.toInt_ofNat_small hi, Int32.toInt_ofNat_small hj]; omega
theorem own_eq0 {i : Nat} (hi : i < 2 ^ 31) : (Int32.ofNat i) = (0 : Int32) ↔ i = 0 := by
  rw [← Int32.toInt_inj, Int32.toInt_ofNat_small hi]
  show (i : Int) = 0 ↔ _
  omega
theorem own_one {i : Nat} : (Int32.ofNat i) + (1 : Int32) = Int32.ofNat (i + 1) := by rw [Int32.ofNat_add]; rfl
theorem own_os5 {z0 z1 z2 z3 z4 : Value} {s5 : Slot} {v : Int32} (h : One s5) : storeLocals #[.val z0, .val z1, .val z2, .val z3, .val z4, s5] 5 (.int v) = some #[.val z0, .val z1, .val z2, .val z3, .val z4, .val (.int v)] := by
  rcases h with rfl | ⟨w, rfl, hw⟩
  · rfl
  · cases w <;> first | rfl | (simp [Value.category] at hw)
def own_rdk (cs : List Int32) : Nat → Nat → Nat → Nat
  | 0, _, s => s
  | k + 1, i, s => if cs.getD i 0 = (46 : Int32) then own_rdk cs k (i + 1) s else if s = 0 ∧ cs.getD i 0 = (48 : Int32) then own_rdk cs k (i + 1) s else if 38 < s + 1 then s + 1 else own_rdk cs k (i + 1) (s + 1)
theorem d9_23 : decode prog_7_method_2_code 23 = .ok (.iload 4, 2) := by decide +kernel
theorem d9_25 : decode prog_7_method_2_code 25 = .ok (.iload_n 2, 1) := by decide +kernel
theorem d9_26 : decode prog_7_method_2_code 26 = .ok (.if_icmp .ge 70, 3) := by decide +kernel
theorem d9_96 : decode prog_7_method_2_code 96 = .ok (.return_, 1) := by decide +kernel
theorem d9_29 : decode prog_7_method_2_code 29 = .ok (.aload_n 1, 1) := by decide +kernel
theorem d9_30 : decode prog_7_method_2_code 30 = .ok (.iload 4, 2) := by decide +kernel
theorem pd_2 : parseMethodDescriptor "(I)C" = some ⟨[.int], some .char⟩ := by decide +kernel
theorem d9_32 : decode prog_7_method_2_code 32 = .ok (.invokevirtual 25, 3) := by decide +kernel
theorem d9_35 : decode prog_7_method_2_code 35 = .ok (.istore 5, 2) := by decide +kernel
theorem d9_37 : decode prog_7_method_2_code 37 = .ok (.iload 5, 2) := by decide +kernel
theorem d9_39 : decode prog_7_method_2_code 39 = .ok (.bipush 46, 2) := by decide +kernel
theorem d9_41 : decode prog_7_method_2_code 41 = .ok (.if_icmp .eq 49, 3) := by decide +kernel
theorem d9_90 : decode prog_7_method_2_code 90 = .ok (.iinc 4 1, 3) := by decide +kernel
theorem d9_93 : decode prog_7_method_2_code 93 = .ok (.goto (-70), 3) := by decide +kernel
theorem d9_44 : decode prog_7_method_2_code 44 = .ok (.aload_n 0, 1) := by decide +kernel
theorem d9_45 : decode prog_7_method_2_code 45 = .ok (.getfield 22, 3) := by decide +kernel
theorem d9_48 : decode prog_7_method_2_code 48 = .ok (.ifCond .ne 13, 3) := by decide +kernel
theorem d9_51 : decode prog_7_method_2_code 51 = .ok (.iload 5, 2) := by decide +kernel
theorem d9_53 : decode prog_7_method_2_code 53 = .ok (.bipush 48, 2) := by decide +kernel
theorem d9_55 : decode prog_7_method_2_code 55 = .ok (.if_icmp .ne 6, 3) := by decide +kernel
theorem d9_58 : decode prog_7_method_2_code 58 = .ok (.goto 32, 3) := by decide +kernel
theorem d9_61 : decode prog_7_method_2_code 61 = .ok (.aload_n 0, 1) := by decide +kernel
theorem d9_62 : decode prog_7_method_2_code 62 = .ok (.dup, 1) := by decide +kernel
theorem d9_63 : decode prog_7_method_2_code 63 = .ok (.getfield 22, 3) := by decide +kernel
theorem d9_66 : decode prog_7_method_2_code 66 = .ok (.iconst 1, 1) := by decide +kernel
theorem d9_67 : decode prog_7_method_2_code 67 = .ok (.iadd, 1) := by decide +kernel
theorem d9_68 : decode prog_7_method_2_code 68 = .ok (.putfield 22, 3) := by decide +kernel
theorem d9_71 : decode prog_7_method_2_code 71 = .ok (.aload_n 0, 1) := by decide +kernel
theorem d9_72 : decode prog_7_method_2_code 72 = .ok (.getfield 22, 3) := by decide +kernel
theorem d9_75 : decode prog_7_method_2_code 75 = .ok (.bipush 38, 2) := by decide +kernel
theorem d9_77 : decode prog_7_method_2_code 77 = .ok (.if_icmp .le 4, 3) := by decide +kernel
theorem d9_80 : decode prog_7_method_2_code 80 = .ok (.return_, 1) := by decide +kernel
theorem d9_81 : decode prog_7_method_2_code 81 = .ok (.aload_n 0, 1) := by decide +kernel
theorem d9_82 : decode prog_7_method_2_code 82 = .ok (.iload 5, 2) := by decide +kernel
theorem d9_84 : decode prog_7_method_2_code 84 = .ok (.bipush 48, 2) := by decide +kernel
theorem d9_86 : decode prog_7_method_2_code 86 = .ok (.isub, 1) := by decide +kernel
theorem pd_3 : parseMethodDescriptor "(I)V" = some ⟨[.int], none⟩ := by decide +kernel
theorem d9_87 : decode prog_7_method_2_code 87 = .ok (.invokevirtual 31, 3) := by decide +kernel
set_option maxRecDepth 65536 in
set_option maxHeartbeats 40000000 in
theorem own_rloop {p : Program} {l : Launch} {e : Env} {s : State} {m : MethodId} {args : Array Value} {below : List Frame} {meth : Method} {c : Code} {Z : State} {a0 : Array Value} {n0 : Nat} (hx : p.tables.exec = Jvm.exec) (hZ : Z.Warmed39 s.vm) (hw : ∀ d ∈ tables_1, d.before a0 Z = true) (hby : c.code = prog_7_method_2_code) (hml : c.maxLocals = 6) (hown : s.vm.findClass "com/example/paniere/paniere/CompactDecimal$Digits" = some m.cls) (va vt vb : Addr) (kb : ClassId) (NN : Int32) (cs : List Int32) (vz : Int32) (fm : Value) (vsc : Int32) (ne : Nat) (hS : Heap) (EaS : Exa Z hS va "com/example/paniere/paniere/CompactDecimal$Digits") (Et : Exa Z hS vt "java/lang/String") (Ftv : Fld Z hS vt "java/lang/String" "value" "[B" (.ref vb)) (Ftc : Fld Z hS vt "java/lang/String" "coder" "B" (.int (0 : Int32))) (Vb : Arv Z hS vb kb .byte NN (List.map Value.int (List.map (fun c => c.toInt8.toInt32) cs)) (.int (0 : Int32))) (S_cs : Sta Z hS "java/lang/String" "COMPACT_STRINGS" "Z" (.int vz)) (S_fm : Sta Z hS "jdk/internal/util/Preconditions" "SIOOBE_FORMATTER" "Ljava/util/function/BiFunction;" fm) (g_va : n0 ≤ va) (nat_ : va ≠ vt) (nab_ : va ≠ vb) (hcd : StrChars.Road.CodA cs 0 NN (List.map Value.int (List.map (fun c => c.toInt8.toInt32) cs))) (hbd : ∀ c ∈ cs, ¬ c < 0 ∧ ¬ (65535 : Int32) < c) (hcs : ¬ vz = 0) (rfm : fm.isRef = true) (hl4 : cs.length ≤ 4000) (hnc : ne ≤ cs.length) :
    ∀ (k : Nat) (i : Nat) (sg : Nat) (hw_ : Int64) (lw : Int64) (s5 : Slot) (T0 : State) (locs : List Loc) (h0 : Heap), Stand p l e ({ frames := 4, cells := 0, slots := 0, locals := 64 } : Room) s m args below meth c T0 locs 0 0 → T0.heap = h0 → Fr n0 locs → n0 ≤ h0.size → (i + k = ne) → (sg ≤ 38) → (sg ≤ i) → (One s5) → (Keep hS h0 [va]) → (Exa Z h0 va "com/example/paniere/paniere/CompactDecimal$Digits") → (Fld Z h0 va "com/example/paniere/paniere/CompactDecimal$Digits" "high" "J" (.long hw_)) → (Fld Z h0 va "com/example/paniere/paniere/CompactDecimal$Digits" "low" "J" (.long lw)) → (Fld Z h0 va "com/example/paniere/paniere/CompactDecimal$Digits" "scale" "I" (.int vsc)) → (Fld Z h0 va "com/example/paniere/paniere/CompactDecimal$Digits" "significant" "I" (.int (Int32.ofNat sg))) → 
      ∃ (T' : State) (h' : Heap) (locs' : List Loc) (pcx : Nat) (Lx : Array Slot), Stand p l e ({ frames := 4, cells := 0, slots := 0, locals := 64 } : Room) s m args below meth c T' locs' 0 0 ∧ T'.heap = h' ∧ Fr n0 locs' ∧ Keep h0 h' [va] ∧ (Exa Z h' va "com/example/paniere/paniere/CompactDecimal$Digits") ∧ (∃ uh ul : Int64, Fld Z h' va "com/example/paniere/paniere/CompactDecimal$Digits" "high" "J" (.long uh) ∧ Fld Z h' va "com/example/paniere/paniere/CompactDecimal$Digits" "low" "J" (.long ul)) ∧ (Fld Z h' va "com/example/paniere/paniere/CompactDecimal$Digits" "scale" "I" (.int vsc)) ∧ (Fld Z h' va "com/example/paniere/paniere/CompactDecimal$Digits" "significant" "I" (.int (Int32.ofNat (own_rdk cs k i sg)))) ∧ (decode c.code pcx = .ok (.return_, 1)) ∧ ∀ t, Steps p.tables e below (T'.setTop (mkF m pcx Lx [])) t → Steps p.tables e below (T0.setTop (mkF m 23 #[.val (.ref va), .val (.ref vt), .val (.int (Int32.ofNat ne)), .val (.int vsc), .val (.int (Int32.ofNat i)), s5] [])) t := by
  intro k
  induction k with
  | zero =>
    intro i sg hw_ lw s5 T0 locs h0 X0 e0 N0 Z0 hik hsg hsi h5 KS Ea Fh Fl_ Fs Fg
    have pre0 : ∀ t, Steps p.tables e below (T0.setTop (mkF m 23 #[.val (.ref va), .val (.ref vt), .val (.int (Int32.ofNat ne)), .val (.int vsc), .val (.int (Int32.ofNat i)), s5] [])) t → Steps p.tables e below (T0.setTop (mkF m 23 #[.val (.ref va), .val (.ref vt), .val (.int (Int32.ofNat ne)), .val (.int vsc), .val (.int (Int32.ofNat i)), s5] [])) t := fun t k => k
    have pre1 : ∀ t, Steps p.tables e below (T0.setTop (mkF m 96 #[.val (.ref va), .val (.ref vt), .val (.int (Int32.ofNat ne)), .val (.int vsc), .val (.int (Int32.ofNat i)), s5] [])) t → Steps p.tables e below (T0.setTop (mkF m 23 #[.val (.ref va), .val (.ref vt), .val (.int (Int32.ofNat ne)), .val (.int vsc), .val (.int (Int32.ofNat i)), s5] [])) t := by
      intro t kt
      refine pre0 t ?_
      show Steps p.tables e below (T0.setTop (mkF m 23 #[.val (.ref va), .val (.ref vt), .val (.int (Int32.ofNat ne)), .val (.int vsc), .val (.int (Int32.ofNat i)), s5] [])) _
      refine XS.iload X0.here hx rfl (hb hby d9_23) rfl ?_
      show Steps p.tables e below (T0.setTop (mkF m 25 #[.val (.ref va), .val (.ref vt), .val (.int (Int32.ofNat ne)), .val (.int vsc), .val (.int (Int32.ofNat i)), s5] [(.int (Int32.ofNat i))])) _
      refine XS.iloadN X0.here hx rfl (hb hby d9_25) rfl ?_
      show Steps p.tables e below (T0.setTop (mkF m 26 #[.val (.ref va), .val (.ref vt), .val (.int (Int32.ofNat ne)), .val (.int vsc), .val (.int (Int32.ofNat i)), s5] [(.int (Int32.ofNat ne)), (.int (Int32.ofNat i))])) _
      refine XS.icmpYes X0.here hx rfl (pc0 := 26) (pc' := 96) rfl (hb hby d9_26) rfl (flt ((fun q => absurd ((own_lt32 (by omega) (by omega)).mp q) (by omega)) : ¬ ((Int32.ofNat i) < (Int32.ofNat ne)))).2.1 (by decide) (by decide) ?_
      exact kt
    exact ⟨T0, h0, _, (96), (_), X0, e0, N0, (Keep.refl h0 [va]), Ea, ⟨_, _, Fh, Fl_⟩, Fs, Fg, (hb hby d9_96), fun t kt => pre1 t kt⟩
  | succ k ih =>
    intro i sg hw_ lw s5 T0 locs h0 X0 e0 N0 Z0 hik hsg hsi h5 KS Ea Fh Fl_ Fs Fg
    have pre0 : ∀ t, Steps p.tables e below (T0.setTop (mkF m 23 #[.val (.ref va), .val (.ref vt), .val (.int (Int32.ofNat ne)), .val (.int vsc), .val (.int (Int32.ofNat i)), s5] [])) t → Steps p.tables e below (T0.setTop (mkF m 23 #[.val (.ref va), .val (.ref vt), .val (.int (Int32.ofNat ne)), .val (.int vsc), .val (.int (Int32.ofNat i)), s5] [])) t := fun t k => k
    have hch2 : ∀ d ∈ StrChars.Road.wordsChN, d.before a0 Z = true := fun d hd => hw d ((by decide +kernel : ∀ d ∈ StrChars.Road.wordsChN, d ∈ tables_1) d hd)
    obtain ⟨cq2, kq2, q2a, q2b, q2c⟩ := isOf hZ e0 (Et.keep (KS.trans (Keep.refl h0 [va]) (allS (Or.inl (List.mem_of_getElem? (i := 0) rfl)) all0)))
    obtain ⟨_, _, ⟨T2, L2, k2, n2⟩, -, X2, ⟨Lc2, hQ2, l2, y2, z2⟩, st2⟩ := X0.virtualBack hx (y := (⟨"java/lang/String", "charAt", "(I)C"⟩ : MethodName)) (z := (⟨"java/lang/String", "charAt", "(I)C"⟩ : MethodName)) hown (mvT hZ (hw _ (List.mem_of_getElem? (i := 55) rfl))) (mvT hZ (hw _ (List.mem_of_getElem? (i := 56) rfl))) (notFace_of_selects (args := #[]) (mvT hZ (hw _ (List.mem_of_getElem? (i := 58) rfl)))) (mvT hZ (hw _ (List.mem_of_getElem? (i := 58) rfl))) (mvT hZ (hw _ (List.mem_of_getElem? (i := 57) rfl))) (by decide) (StrChars.Road.chN (W := 0) hZ hch2 (kI := 4) (hw _ (List.mem_of_getElem? (i := 7) rfl)) (Et.keep (KS.trans (Keep.refl h0 [va]) (allS (Or.inl (List.mem_of_getElem? (i := 0) rfl)) all0))) (Ftv.keep (KS.trans (Keep.refl h0 [va]) (allS (Or.inl (List.mem_of_getElem? (i := 0) rfl)) all0)) (ninS (Ne.symm nat_) nin0)) (Ftc.keep (KS.trans (Keep.refl h0 [va]) (allS (Or.inl (List.mem_of_getElem? (i := 0) rfl)) all0)) (ninS (Ne.symm nat_) nin0)) (Vb.keep (KS.trans (Keep.refl h0 [va]) (allS (Or.inl (List.mem_of_getElem? (i := 0) rfl)) all0)) (ninS (Ne.symm nab_) nin0)) hcd hbd (own_sta_keepE S_cs (KS.trans (Keep.refl h0 [va]) (allS (Or.inl (List.mem_of_getElem? (i := 0) rfl)) all0)) (allS ⟨_, EaS⟩ all0)) hcs (own_sta_keepE S_fm (KS.trans (Keep.refl h0 [va]) (allS (Or.inl (List.mem_of_getElem? (i := 0) rfl)) all0)) (allS ⟨_, EaS⟩ all0)) rfm hl4 (i := i) (by omega) (j := (Int32.ofNat i)) rfl (by decide) (by decide)) q2a q2c (g := (mkF m 32 #[.val (.ref va), .val (.ref vt), .val (.int (Int32.ofNat ne)), .val (.int vsc), .val (.int (Int32.ofNat i)), s5] [(.int (Int32.ofNat i)), (.ref vt)])) rfl (by rw [hml]; rfl) (Steps.refl _) (argsL := [(.int (Int32.ofNat i))]) (rest := []) (lenOf pd_2 rfl) rfl (by show 2 * 0 + _ ≤ _; exact Nat.le_of_eq rfl) (hb hby d9_32) (fun _ _ => ⟨rfl, e0, (by decide : 0 + 0 ≤ _), (by decide : 0 + 0 ≤ _)⟩)
    dsimp only [Pt.U, Pt.locs, Pt.cells, Pt.slots] at X2 l2 y2 z2 st2 hQ2
    subst l2 y2 z2
    obtain ⟨rfl, rfl, e2q⟩ := hQ2
    have N2 := Fr.app N0 (Fr.nil n0)
    have pre3 : ∀ t, Steps p.tables e below (T2.setTop (mkF m 35 #[.val (.ref va), .val (.ref vt), .val (.int (Int32.ofNat ne)), .val (.int vsc), .val (.int (Int32.ofNat i)), s5] [(.int (cs.getD i 0))])) t → Steps p.tables e below (T0.setTop (mkF m 23 #[.val (.ref va), .val (.ref vt), .val (.int (Int32.ofNat ne)), .val (.int vsc), .val (.int (Int32.ofNat i)), s5] [])) t := by
      intro t kt
      refine pre0 t ?_
      show Steps p.tables e below (T0.setTop (mkF m 23 #[.val (.ref va), .val (.ref vt), .val (.int (Int32.ofNat ne)), .val (.int vsc), .val (.int (Int32.ofNat i)), s5] [])) _
      refine XS.iload X0.here hx rfl (hb hby d9_23) rfl ?_
      show Steps p.tables e below (T0.setTop (mkF m 25 #[.val (.ref va), .val (.ref vt), .val (.int (Int32.ofNat ne)), .val (.int vsc), .val (.int (Int32.ofNat i)), s5] [(.int (Int32.ofNat i))])) _
      refine XS.iloadN X0.here hx rfl (hb hby d9_25) rfl ?_
      show Steps p.tables e below (T0.setTop (mkF m 26 #[.val (.ref va), .val (.ref vt), .val (.int (Int32.ofNat ne)), .val (.int vsc), .val (.int (Int32.ofNat i)), s5] [(.int (Int32.ofNat ne)), (.int (Int32.ofNat i))])) _
      refine XS.icmpNo X0.here hx rfl (hb hby d9_26) rfl (tlt (((own_lt32 (by omega) (by omega)).mpr (by omega)) : (Int32.ofNat i) < (Int32.ofNat ne))).2.1 ?_
      show Steps p.tables e below (T0.setTop (mkF m 29 #[.val (.ref va), .val (.ref vt), .val (.int (Int32.ofNat ne)), .val (.int vsc), .val (.int (Int32.ofNat i)), s5] [])) _
      refine XS.aloadN X0.here hx rfl (hb hby d9_29) rfl rfl ?_
      show Steps p.tables e below (T0.setTop (mkF m 30 #[.val (.ref va), .val (.ref vt), .val (.int (Int32.ofNat ne)), .val (.int vsc), .val (.int (Int32.ofNat i)), s5] [(.ref vt)])) _
      refine XS.iload X0.here hx rfl (hb hby d9_30) rfl ?_
      show Steps p.tables e below (T0.setTop (mkF m 32 #[.val (.ref va), .val (.ref vt), .val (.int (Int32.ofNat ne)), .val (.int vsc), .val (.int (Int32.ofNat i)), s5] [(.int (Int32.ofNat i)), (.ref vt)])) _
      refine st2.trans ?_
      exact kt
    obtain ⟨cc, hcc⟩ : ∃ z : Int32, z = (cs.getD i 0) := ⟨_, rfl⟩
    rw [← hcc] at pre3
    have pre4 : ∀ t, Steps p.tables e below (T2.setTop (mkF m 41 #[.val (.ref va), .val (.ref vt), .val (.int (Int32.ofNat ne)), .val (.int vsc), .val (.int (Int32.ofNat i)), .val (.int cc)] [(.int (46 : Int32)), (.int cc)])) t → Steps p.tables e below (T0.setTop (mkF m 23 #[.val (.ref va), .val (.ref vt), .val (.int (Int32.ofNat ne)), .val (.int vsc), .val (.int (Int32.ofNat i)), s5] [])) t := by
      intro t kt
      refine pre3 t ?_
      show Steps p.tables e below (T2.setTop (mkF m 35 #[.val (.ref va), .val (.ref vt), .val (.int (Int32.ofNat ne)), .val (.int vsc), .val (.int (Int32.ofNat i)), s5] [(.int cc)])) _
      refine XS.istore X2.here hx rfl (hb hby d9_35) rfl (l' := #[.val (.ref va), .val (.ref vt), .val (.int (Int32.ofNat ne)), .val (.int vsc), .val (.int (Int32.ofNat i)), .val (.int cc)]) (own_os5 h5) ?_
      show Steps p.tables e below (T2.setTop (mkF m 37 #[.val (.ref va), .val (.ref vt), .val (.int (Int32.ofNat ne)), .val (.int vsc), .val (.int (Int32.ofNat i)), .val (.int cc)] [])) _
      refine XS.iload X2.here hx rfl (hb hby d9_37) rfl ?_
      show Steps p.tables e below (T2.setTop (mkF m 39 #[.val (.ref va), .val (.ref vt), .val (.int (Int32.ofNat ne)), .val (.int vsc), .val (.int (Int32.ofNat i)), .val (.int cc)] [(.int cc)])) _
      refine XS.bipush X2.here hx rfl (hb hby d9_39) ?_
      exact kt
    by_cases hc5 : cc = (46 : Int32)
    ·
      have pre6 : ∀ t, Steps p.tables e below (T2.setTop (mkF m 23 #[.val (.ref va), .val (.ref vt), .val (.int (Int32.ofNat ne)), .val (.int vsc), .val (.int ((Int32.ofNat i) + (1 : Int32))), .val (.int cc)] [])) t → Steps p.tables e below (T0.setTop (mkF m 23 #[.val (.ref va), .val (.ref vt), .val (.int (Int32.ofNat ne)), .val (.int vsc), .val (.int (Int32.ofNat i)), s5] [])) t := by
        intro t kt
        refine pre4 t ?_
        show Steps p.tables e below (T2.setTop (mkF m 41 #[.val (.ref va), .val (.ref vt), .val (.int (Int32.ofNat ne)), .val (.int vsc), .val (.int (Int32.ofNat i)), .val (.int cc)] [(.int (46 : Int32)), (.int cc)])) _
        refine XS.icmpYes X2.here hx rfl (pc0 := 41) (pc' := 90) rfl (hb hby d9_41) rfl (teq (hc5 : cc = (46 : Int32))).1 (by decide) (by decide) ?_
        show Steps p.tables e below (T2.setTop (mkF m 90 #[.val (.ref va), .val (.ref vt), .val (.int (Int32.ofNat ne)), .val (.int vsc), .val (.int (Int32.ofNat i)), .val (.int cc)] [])) _
        refine XS.iinc X2.here hx rfl (hb hby d9_90) rfl (l' := #[.val (.ref va), .val (.ref vt), .val (.int (Int32.ofNat ne)), .val (.int vsc), .val (.int ((Int32.ofNat i) + (1 : Int32))), .val (.int cc)]) rfl ?_
        show Steps p.tables e below (T2.setTop (mkF m 93 #[.val (.ref va), .val (.ref vt), .val (.int (Int32.ofNat ne)), .val (.int vsc), .val (.int ((Int32.ofNat i) + (1 : Int32))), .val (.int cc)] [])) _
        refine XS.goto X2.here hx rfl (pc0 := 93) (pc' := 23) rfl (hb hby d9_93) (by decide) (by decide) ?_
        exact kt
      rw [own_one] at pre6
      obtain ⟨T7, h7, locs7, pcx7, Lx7, X7, e7, N7, K7, po7_0, po7_1, po7_2, po7_3, po7_4, run7⟩ := ih (i + 1) (sg) (hw_) (lw) (.val (.int cc)) T2 _ h0 X2 e2q N2 Z0 (by omega) (by omega) (by omega) (One.val rfl) (KS.trans (Keep.refl h0 [va]) (allS (Or.inl (List.mem_of_getElem? (i := 0) rfl)) all0)) Ea Fh Fl_ Fs Fg
      exact ⟨T7, h7, locs7, pcx7, Lx7, X7, e7, N7, (Keep.refl h0 [va]).trans K7 (allS (Or.inl (List.mem_of_getElem? (i := 0) rfl)) all0), po7_0, po7_1, po7_2, (by rw [own_rdk, if_pos (hcc ▸ hc5)]; exact po7_3), po7_4, fun t kt => pre6 t (run7 t kt)⟩
    ·
      obtain ⟨T8, X8, e8, st8⟩ := getF X2 hx hZ hown (host := "") (Or.inl (hw _ (List.mem_of_getElem? (i := 53) rfl))) Via.refl e2q Fg (g := (mkF m 45 #[.val (.ref va), .val (.ref vt), .val (.int (Int32.ofNat ne)), .val (.int vsc), .val (.int (Int32.ofNat i)), .val (.int cc)] [(.ref va)])) rfl rfl (hb hby d9_45)
      have pre9 : ∀ t, Steps p.tables e below (T8.setTop (mkF m 48 #[.val (.ref va), .val (.ref vt), .val (.int (Int32.ofNat ne)), .val (.int vsc), .val (.int (Int32.ofNat i)), .val (.int cc)] [(.int (Int32.ofNat sg))])) t → Steps p.tables e below (T0.setTop (mkF m 23 #[.val (.ref va), .val (.ref vt), .val (.int (Int32.ofNat ne)), .val (.int vsc), .val (.int (Int32.ofNat i)), s5] [])) t := by
        intro t kt
        refine pre4 t ?_
        show Steps p.tables e below (T2.setTop (mkF m 41 #[.val (.ref va), .val (.ref vt), .val (.int (Int32.ofNat ne)), .val (.int vsc), .val (.int (Int32.ofNat i)), .val (.int cc)] [(.int (46 : Int32)), (.int cc)])) _
        refine XS.icmpNo X2.here hx rfl (hb hby d9_41) rfl (feq (hc5 : ¬ (cc = (46 : Int32)))).1 ?_
        show Steps p.tables e below (T2.setTop (mkF m 44 #[.val (.ref va), .val (.ref vt), .val (.int (Int32.ofNat ne)), .val (.int vsc), .val (.int (Int32.ofNat i)), .val (.int cc)] [])) _
        refine XS.aloadN X2.here hx rfl (hb hby d9_44) rfl rfl ?_
        show Steps p.tables e below (T2.setTop (mkF m 45 #[.val (.ref va), .val (.ref vt), .val (.int (Int32.ofNat ne)), .val (.int vsc), .val (.int (Int32.ofNat i)), .val (.int cc)] [(.ref va)])) _
        refine st8 _ ?_
        exact kt
      by_cases hc10 : (Int32.ofNat sg) = (0 : Int32)
      ·
        have pre11 : ∀ t, Steps p.tables e below (T8.setTop (mkF m 55 #[.val (.ref va), .val (.ref vt), .val (.int (Int32.ofNat ne)), .val (.int vsc), .val (.int (Int32.ofNat i)), .val (.int cc)] [(.int (48 : Int32)), (.int cc)])) t → Steps p.tables e below (T0.setTop (mkF m 23 #[.val (.ref va), .val (.ref vt), .val (.int (Int32.ofNat ne)), .val (.int vsc), .val (.int (Int32.ofNat i)), s5] [])) t := by
          intro t kt
          refine pre9 t ?_
          show Steps p.tables e below (T8.setTop (mkF m 48 #[.val (.ref va), .val (.ref vt), .val (.int (Int32.ofNat ne)), .val (.int vsc), .val (.int (Int32.ofNat i)), .val (.int cc)] [(.int (Int32.ofNat sg))])) _
          refine XS.ifNo X8.here hx rfl (hb hby d9_48) rfl ((if0 _ _).trans (teq (hc10 : (Int32.ofNat sg) = (0 : Int32))).2) ?_
          show Steps p.tables e below (T8.setTop (mkF m 51 #[.val (.ref va), .val (.ref vt), .val (.int (Int32.ofNat ne)), .val (.int vsc), .val (.int (Int32.ofNat i)), .val (.int cc)] [])) _
          refine XS.iload X8.here hx rfl (hb hby d9_51) rfl ?_
          show Steps p.tables e below (T8.setTop (mkF m 53 #[.val (.ref va), .val (.ref vt), .val (.int (Int32.ofNat ne)), .val (.int vsc), .val (.int (Int32.ofNat i)), .val (.int cc)] [(.int cc)])) _
          refine XS.bipush X8.here hx rfl (hb hby d9_53) ?_
          exact kt
        by_cases hc12 : cc = (48 : Int32)
        ·
          have pre13 : ∀ t, Steps p.tables e below (T8.setTop (mkF m 23 #[.val (.ref va), .val (.ref vt), .val (.int (Int32.ofNat ne)), .val (.int vsc), .val (.int ((Int32.ofNat i) + (1 : Int32))), .val (.int cc)] [])) t → Steps p.tables e below (T0.setTop (mkF m 23 #[.val (.ref va), .val (.ref vt), .val (.int (Int32.ofNat ne)), .val (.int vsc), .val (.int (Int32.ofNat i)), s5] [])) t := by
            intro t kt
            refine pre11 t ?_
            show Steps p.tables e below (T8.setTop (mkF m 55 #[.val (.ref va), .val (.ref vt), .val (.int (Int32.ofNat ne)), .val (.int vsc), .val (.int (Int32.ofNat i)), .val (.int cc)] [(.int (48 : Int32)), (.int cc)])) _
            refine XS.icmpNo X8.here hx rfl (hb hby d9_55) rfl (teq (hc12 : cc = (48 : Int32))).2 ?_
            show Steps p.tables e below (T8.setTop (mkF m 58 #[.val (.ref va), .val (.ref vt), .val (.int (Int32.ofNat ne)), .val (.int vsc), .val (.int (Int32.ofNat i)), .val (.int cc)] [])) _
            refine XS.goto X8.here hx rfl (pc0 := 58) (pc' := 90) rfl (hb hby d9_58) (by decide) (by decide) ?_
            show Steps p.tables e below (T8.setTop (mkF m 90 #[.val (.ref va), .val (.ref vt), .val (.int (Int32.ofNat ne)), .val (.int vsc), .val (.int (Int32.ofNat i)), .val (.int cc)] [])) _
            refine XS.iinc X8.here hx rfl (hb hby d9_90) rfl (l' := #[.val (.ref va), .val (.ref vt), .val (.int (Int32.ofNat ne)), .val (.int vsc), .val (.int ((Int32.ofNat i) + (1 : Int32))), .val (.int cc)]) rfl ?_
            show Steps p.tables e below (T8.setTop (mkF m 93 #[.val (.ref va), .val (.ref vt), .val (.int (Int32.ofNat ne)), .val (.int vsc), .val (.int ((Int32.ofNat i) + (1 : Int32))), .val (.int cc)] [])) _
            refine XS.goto X8.here hx rfl (pc0 := 93) (pc' := 23) rfl (hb hby d9_93) (by decide) (by decide) ?_
            exact kt
          rw [own_one] at pre13
          obtain ⟨T14, h14, locs14, pcx14, Lx14, X14, e14, N14, K14, po14_0, po14_1, po14_2, po14_3, po14_4, run14⟩ := ih (i + 1) (sg) (hw_) (lw) (.val (.int cc)) T8 _ h0 X8 e8 N2 Z0 (by omega) (by omega) (by omega) (One.val rfl) (KS.trans (Keep.refl h0 [va]) (allS (Or.inl (List.mem_of_getElem? (i := 0) rfl)) all0)) Ea Fh Fl_ Fs Fg
          exact ⟨T14, h14, locs14, pcx14, Lx14, X14, e14, N14, (Keep.refl h0 [va]).trans K14 (allS (Or.inl (List.mem_of_getElem? (i := 0) rfl)) all0), po14_0, po14_1, po14_2, (by rw [own_rdk, if_neg (fun q => hc5 (hcc.trans q)), if_pos ⟨(own_eq0 (by omega)).mp hc10, hcc ▸ hc12⟩]; exact po14_3), po14_4, fun t kt => pre13 t (run14 t kt)⟩
        ·
          obtain ⟨T15, X15, e15, st15⟩ := getF X8 hx hZ hown (host := "") (Or.inl (hw _ (List.mem_of_getElem? (i := 53) rfl))) Via.refl e8 Fg (g := (mkF m 63 #[.val (.ref va), .val (.ref vt), .val (.int (Int32.ofNat ne)), .val (.int vsc), .val (.int (Int32.ofNat i)), .val (.int cc)] [(.ref va), (.ref va)])) rfl rfl (hb hby d9_63)
          obtain ⟨T16, h16, X16, e16, W16, st16⟩ := putF X15 hx hZ hown (host := "") (Or.inl (hw _ (List.mem_of_getElem? (i := 53) rfl))) Via.refl e15 Fg Ea (Or.inl (hw _ (List.mem_of_getElem? (i := 54) rfl))) (hw _ (List.mem_of_getElem? (i := 36) rfl)) (ty := .int) (by decide) rfl rfl (g := (mkF m 68 #[.val (.ref va), .val (.ref vt), .val (.int (Int32.ofNat ne)), .val (.int vsc), .val (.int (Int32.ofNat i)), .val (.int cc)] [(.int ((Int32.ofNat sg) + (1 : Int32))), (.ref va)])) rfl rfl (hb hby d9_68)
          have Fw16 : Fld Z h16 va "com/example/paniere/paniere/CompactDecimal$Digits" "significant" "I" (.int ((Int32.ofNat sg) + (1 : Int32))) := Fg.same W16
          have c17 : Exa Z h16 va "com/example/paniere/paniere/CompactDecimal$Digits" := Ea.wr W16
          have c18 : Fld Z h16 va "com/example/paniere/paniere/CompactDecimal$Digits" "high" "J" (.long hw_) := Fh.other W16 (Or.inr (slot_ne (Or.inl (hw _ (List.mem_of_getElem? (i := 48) rfl))) (Or.inl (hw _ (List.mem_of_getElem? (i := 54) rfl))) (by decide) (t := .long) (t' := .int) (by decide) (by decide)))
          have c19 : Fld Z h16 va "com/example/paniere/paniere/CompactDecimal$Digits" "low" "J" (.long lw) := Fl_.other W16 (Or.inr (slot_ne (Or.inl (hw _ (List.mem_of_getElem? (i := 50) rfl))) (Or.inl (hw _ (List.mem_of_getElem? (i := 54) rfl))) (by decide) (t := .long) (t' := .int) (by decide) (by decide)))
          have c20 : Fld Z h16 va "com/example/paniere/paniere/CompactDecimal$Digits" "scale" "I" (.int vsc) := Fs.other W16 (Or.inr (slot_ne (Or.inl (hw _ (List.mem_of_getElem? (i := 52) rfl))) (Or.inl (hw _ (List.mem_of_getElem? (i := 54) rfl))) (by decide) (t := .int) (t' := .int) (by decide) (by decide)))
          have Z16 : n0 ≤ h16.size := Nat.le_trans Z0 (Keep.of_wr W16).1
          have N16 := Fr.snoc X16 N2 g_va
          have K16 : Keep h0 h16 [va] := (Keep.refl h0 [va]).wr W16 (Or.inl (List.mem_of_getElem? (i := 0) rfl))
          have q21 : Fld Z h16 va "com/example/paniere/paniere/CompactDecimal$Digits" "significant" "I" (.int (Int32.ofNat (sg + 1))) := own_one ▸ Fw16
          obtain ⟨T22, X22, e22, st22⟩ := getF X16 hx hZ hown (host := "") (Or.inl (hw _ (List.mem_of_getElem? (i := 53) rfl))) Via.refl e16 q21 (g := (mkF m 72 #[.val (.ref va), .val (.ref vt), .val (.int (Int32.ofNat ne)), .val (.int vsc), .val (.int (Int32.ofNat i)), .val (.int cc)] [(.ref va)])) rfl rfl (hb hby d9_72)
          have pre23 : ∀ t, Steps p.tables e below (T22.setTop (mkF m 77 #[.val (.ref va), .val (.ref vt), .val (.int (Int32.ofNat ne)), .val (.int vsc), .val (.int (Int32.ofNat i)), .val (.int cc)] [(.int (38 : Int32)), (.int (Int32.ofNat (sg + 1)))])) t → Steps p.tables e below (T0.setTop (mkF m 23 #[.val (.ref va), .val (.ref vt), .val (.int (Int32.ofNat ne)), .val (.int vsc), .val (.int (Int32.ofNat i)), s5] [])) t := by
            intro t kt
            refine pre11 t ?_
            show Steps p.tables e below (T8.setTop (mkF m 55 #[.val (.ref va), .val (.ref vt), .val (.int (Int32.ofNat ne)), .val (.int vsc), .val (.int (Int32.ofNat i)), .val (.int cc)] [(.int (48 : Int32)), (.int cc)])) _
            refine XS.icmpYes X8.here hx rfl (pc0 := 55) (pc' := 61) rfl (hb hby d9_55) rfl (feq (hc12 : ¬ (cc = (48 : Int32)))).2 (by decide) (by decide) ?_
            show Steps p.tables e below (T8.setTop (mkF m 61 #[.val (.ref va), .val (.ref vt), .val (.int (Int32.ofNat ne)), .val (.int vsc), .val (.int (Int32.ofNat i)), .val (.int cc)] [])) _
            refine XS.aloadN X8.here hx rfl (hb hby d9_61) rfl rfl ?_
            show Steps p.tables e below (T8.setTop (mkF m 62 #[.val (.ref va), .val (.ref vt), .val (.int (Int32.ofNat ne)), .val (.int vsc), .val (.int (Int32.ofNat i)), .val (.int cc)] [(.ref va)])) _
            refine XS.dup X8.here hx rfl (hb hby d9_62) rfl rfl ?_
            show Steps p.tables e below (T8.setTop (mkF m 63 #[.val (.ref va), .val (.ref vt), .val (.int (Int32.ofNat ne)), .val (.int vsc), .val (.int (Int32.ofNat i)), .val (.int cc)] [(.ref va), (.ref va)])) _
            refine st15 _ ?_
            show Steps p.tables e below (T15.setTop (mkF m 66 #[.val (.ref va), .val (.ref vt), .val (.int (Int32.ofNat ne)), .val (.int vsc), .val (.int (Int32.ofNat i)), .val (.int cc)] [(.int (Int32.ofNat sg)), (.ref va)])) _
            refine XS.iconst X15.here hx rfl (hb hby d9_66) ?_
            show Steps p.tables e below (T15.setTop (mkF m 67 #[.val (.ref va), .val (.ref vt), .val (.int (Int32.ofNat ne)), .val (.int vsc), .val (.int (Int32.ofNat i)), .val (.int cc)] [(.int (1 : Int32)), (.int (Int32.ofNat sg)), (.ref va)])) _
            refine XS.iadd X15.here hx rfl (hb hby d9_67) rfl ?_
            show Steps p.tables e below (T15.setTop (mkF m 68 #[.val (.ref va), .val (.ref vt), .val (.int (Int32.ofNat ne)), .val (.int vsc), .val (.int (Int32.ofNat i)), .val (.int cc)] [(.int ((Int32.ofNat sg) + (1 : Int32))), (.ref va)])) _
            refine st16 _ ?_
            show Steps p.tables e below (T16.setTop (mkF m 71 #[.val (.ref va), .val (.ref vt), .val (.int (Int32.ofNat ne)), .val (.int vsc), .val (.int (Int32.ofNat i)), .val (.int cc)] [])) _
            refine XS.aloadN X16.here hx rfl (hb hby d9_71) rfl rfl ?_
            show Steps p.tables e below (T16.setTop (mkF m 72 #[.val (.ref va), .val (.ref vt), .val (.int (Int32.ofNat ne)), .val (.int vsc), .val (.int (Int32.ofNat i)), .val (.int cc)] [(.ref va)])) _
            refine st22 _ ?_
            show Steps p.tables e below (T22.setTop (mkF m 75 #[.val (.ref va), .val (.ref vt), .val (.int (Int32.ofNat ne)), .val (.int vsc), .val (.int (Int32.ofNat i)), .val (.int cc)] [(.int (Int32.ofNat (sg + 1)))])) _
            refine XS.bipush X22.here hx rfl (hb hby d9_75) ?_
            exact kt
          by_cases hc24 : (38 : Int32) < (Int32.ofNat (sg + 1))
          ·
            have pre25 : ∀ t, Steps p.tables e below (T22.setTop (mkF m 80 #[.val (.ref va), .val (.ref vt), .val (.int (Int32.ofNat ne)), .val (.int vsc), .val (.int (Int32.ofNat i)), .val (.int cc)] [])) t → Steps p.tables e below (T0.setTop (mkF m 23 #[.val (.ref va), .val (.ref vt), .val (.int (Int32.ofNat ne)), .val (.int vsc), .val (.int (Int32.ofNat i)), s5] [])) t := by
              intro t kt
              refine pre23 t ?_
              show Steps p.tables e below (T22.setTop (mkF m 77 #[.val (.ref va), .val (.ref vt), .val (.int (Int32.ofNat ne)), .val (.int vsc), .val (.int (Int32.ofNat i)), .val (.int cc)] [(.int (38 : Int32)), (.int (Int32.ofNat (sg + 1)))])) _
              refine XS.icmpNo X22.here hx rfl (hb hby d9_77) rfl (tlt (hc24 : (38 : Int32) < (Int32.ofNat (sg + 1)))).2.2.2 ?_
              exact kt
            exact ⟨T22, h16, _, 80, _, X22, e22, N16, K16, c17, ⟨_, _, c18, c19⟩, c20, (by rw [own_rdk, if_neg (fun q => hc5 (hcc.trans q)), if_neg (fun q => hc12 (hcc.trans q.2)), if_pos ((own_lt32 (i := 38) (by omega) (by omega)).mp hc24)]; exact q21), (hb hby d9_80), fun t kt => pre25 t kt⟩
          ·
            obtain ⟨cq26, q26, q26'⟩ := c17.cell
            obtain ⟨_, _, ⟨T26, L26, k26, n26⟩, -, X26, ⟨Lc26, hQ26, l26, y26, z26⟩, st26⟩ := X22.privateBack hx (y := (⟨"com/example/paniere/paniere/CompactDecimal$Digits", "appendDigit", "(I)V"⟩ : MethodName)) hown (mvT hZ (hw _ (List.mem_of_getElem? (i := 84) rfl))) (mvT hZ (hw _ (List.mem_of_getElem? (i := 85) rfl))) (own_selp (mvT hZ (hw _ (List.mem_of_getElem? (i := 36) rfl))) (Cond.privateMethod_at (mvP hZ (hw _ (List.mem_of_getElem? (i := 86) rfl)) (args := #[]))) (mvT hZ (hw _ (List.mem_of_getElem? (i := 85) rfl)))) (Cond.privateMethod_at (mvP hZ (hw _ (List.mem_of_getElem? (i := 86) rfl)) (args := #[]))) (mvT hZ (hw _ (List.mem_of_getElem? (i := 87) rfl))) (by decide) (backOf (W := 0) (rm16 l Z a0 hw [] va (cc - (48 : Int32)) hw_ lw vsc (Int32.ofNat (sg + 1)) h16 n0 Z16 c17 c18 c19 c20 q21 g_va) hZ (hw _ (List.mem_of_getElem? (i := 87) rfl)) (hw _ (List.mem_of_getElem? (i := 37) rfl)) (by decide) (by decide)) (g := (mkF m 87 #[.val (.ref va), .val (.ref vt), .val (.int (Int32.ofNat ne)), .val (.int vsc), .val (.int (Int32.ofNat i)), .val (.int cc)] [(.int (cc - (48 : Int32))), (.ref va)])) rfl (by rw [hml]; rfl) (Steps.refl _) (a := va) (by rw [e22]; exact q26) q26' (argsL := [(.int (cc - (48 : Int32)))]) (rest := []) (lenOf pd_3 rfl) rfl (by show 2 * 0 + _ ≤ _; exact Nat.le_of_eq rfl) (hb hby d9_87) (fun _ _ => ⟨rfl, e22, (by decide : 0 + 0 ≤ _), (by decide : 0 + 0 ≤ _)⟩)
            dsimp only [Pt.U, Pt.locs, Pt.cells, Pt.slots] at X26 l26 y26 z26 st26 hQ26
            subst l26 y26 z26
            obtain ⟨rfl, N26q, K26q, f26_0, uh26, ul26, fp26_0, fp26_1, fp26_2, fp26_3⟩ := hQ26
            have N26 := Fr.app N16 N26q
            have Z26 : n0 ≤ T26.heap.size := Nat.le_trans Z16 K26q.1
            have c27 : Exa Z T26.heap va "com/example/paniere/paniere/CompactDecimal$Digits" := c17.keep K26q
            have K26 : Keep h0 T26.heap [va] := K16.trans K26q (allS (Or.inl (List.mem_of_getElem? (i := 0) rfl)) all0)
            have pre28 : ∀ t, Steps p.tables e below (T26.setTop (mkF m 23 #[.val (.ref va), .val (.ref vt), .val (.int (Int32.ofNat ne)), .val (.int vsc), .val (.int ((Int32.ofNat i) + (1 : Int32))), .val (.int cc)] [])) t → Steps p.tables e below (T0.setTop (mkF m 23 #[.val (.ref va), .val (.ref vt), .val (.int (Int32.ofNat ne)), .val (.int vsc), .val (.int (Int32.ofNat i)), s5] [])) t := by
              intro t kt
              refine pre23 t ?_
              show Steps p.tables e below (T22.setTop (mkF m 77 #[.val (.ref va), .val (.ref vt), .val (.int (Int32.ofNat ne)), .val (.int vsc), .val (.int (Int32.ofNat i)), .val (.int cc)] [(.int (38 : Int32)), (.int (Int32.ofNat (sg + 1)))])) _
              refine XS.icmpYes X22.here hx rfl (pc0 := 77) (pc' := 81) rfl (hb hby d9_77) rfl (flt (hc24 : ¬ ((38 : Int32) < (Int32.ofNat (sg + 1))))).2.2.2 (by decide) (by decide) ?_
              show Steps p.tables e below (T22.setTop (mkF m 81 #[.val (.ref va), .val (.ref vt), .val (.int (Int32.ofNat ne)), .val (.int vsc), .val (.int (Int32.ofNat i)), .val (.int cc)] [])) _
              refine XS.aloadN X22.here hx rfl (hb hby d9_81) rfl rfl ?_
              show Steps p.tables e below (T22.setTop (mkF m 82 #[.val (.ref va), .val (.ref vt), .val (.int (Int32.ofNat ne)), .val (.int vsc), .val (.int (Int32.ofNat i)), .val (.int cc)] [(.ref va)])) _
              refine XS.iload X22.here hx rfl (hb hby d9_82) rfl ?_
              show Steps p.tables e below (T22.setTop (mkF m 84 #[.val (.ref va), .val (.ref vt), .val (.int (Int32.ofNat ne)), .val (.int vsc), .val (.int (Int32.ofNat i)), .val (.int cc)] [(.int cc), (.ref va)])) _
              refine XS.bipush X22.here hx rfl (hb hby d9_84) ?_
              show Steps p.tables e below (T22.setTop (mkF m 86 #[.val (.ref va), .val (.ref vt), .val (.int (Int32.ofNat ne)), .val (.int vsc), .val (.int (Int32.ofNat i)), .val (.int cc)] [(.int (48 : Int32)), (.int cc), (.ref va)])) _
              refine XS.isub X22.here hx rfl (hb hby d9_86) rfl ?_
              show Steps p.tables e below (T22.setTop (mkF m 87 #[.val (.ref va), .val (.ref vt), .val (.int (Int32.ofNat ne)), .val (.int vsc), .val (.int (Int32.ofNat i)), .val (.int cc)] [(.int (cc - (48 : Int32))), (.ref va)])) _
              refine st26.trans ?_
              show Steps p.tables e below (T26.setTop (mkF m 90 #[.val (.ref va), .val (.ref vt), .val (.int (Int32.ofNat ne)), .val (.int vsc), .val (.int (Int32.ofNat i)), .val (.int cc)] [])) _
              refine XS.iinc X26.here hx rfl (hb hby d9_90) rfl (l' := #[.val (.ref va), .val (.ref vt), .val (.int (Int32.ofNat ne)), .val (.int vsc), .val (.int ((Int32.ofNat i) + (1 : Int32))), .val (.int cc)]) rfl ?_
              show Steps p.tables e below (T26.setTop (mkF m 93 #[.val (.ref va), .val (.ref vt), .val (.int (Int32.ofNat ne)), .val (.int vsc), .val (.int ((Int32.ofNat i) + (1 : Int32))), .val (.int cc)] [])) _
              refine XS.goto X26.here hx rfl (pc0 := 93) (pc' := 23) rfl (hb hby d9_93) (by decide) (by decide) ?_
              exact kt
            rw [own_one] at pre28
            obtain ⟨T29, h29, locs29, pcx29, Lx29, X29, e29, N29, K29, po29_0, po29_1, po29_2, po29_3, po29_4, run29⟩ := ih (i + 1) (sg + 1) (uh26) (ul26) (.val (.int cc)) T26 _ T26.heap X26 rfl N26 Z26 (by omega) (by have q := mt (own_lt32 (i := 38) (by omega) (by omega)).mpr hc24; omega) (by omega) (One.val rfl) (KS.trans K26 (allS (Or.inl (List.mem_of_getElem? (i := 0) rfl)) all0)) f26_0 fp26_0 fp26_1 fp26_2 fp26_3
            exact ⟨T29, h29, locs29, pcx29, Lx29, X29, e29, N29, K26.trans K29 (allS (Or.inl (List.mem_of_getElem? (i := 0) rfl)) all0), po29_0, po29_1, po29_2, (by rw [own_rdk, if_neg (fun q => hc5 (hcc.trans q)), if_neg (fun q => hc12 (hcc.trans q.2)), if_neg (by have q := mt (own_lt32 (i := 38) (by omega) (by omega)).mpr hc24; omega)]; exact po29_3), po29_4, fun t kt => pre28 t (run29 t kt)⟩
      ·
        obtain ⟨T30, X30, e30, st30⟩ := getF X8 hx hZ hown (host := "") (Or.inl (hw _ (List.mem_of_getElem? (i := 53) rfl))) Via.refl e8 Fg (g := (mkF m 63 #[.val (.ref va), .val (.ref vt), .val (.int (Int32.ofNat ne)), .val (.int vsc), .val (.int (Int32.ofNat i)), .val (.int cc)] [(.ref va), (.ref va)])) rfl rfl (hb hby d9_63)
        obtain ⟨T31, h31, X31, e31, W31, st31⟩ := putF X30 hx hZ hown (host := "") (Or.inl (hw _ (List.mem_of_getElem? (i := 53) rfl))) Via.refl e30 Fg Ea (Or.inl (hw _ (List.mem_of_getElem? (i := 54) rfl))) (hw _ (List.mem_of_getElem? (i := 36) rfl)) (ty := .int) (by decide) rfl rfl (g := (mkF m 68 #[.val (.ref va), .val (.ref vt), .val (.int (Int32.ofNat ne)), .val (.int vsc), .val (.int (Int32.ofNat i)), .val (.int cc)] [(.int ((Int32.ofNat sg) + (1 : Int32))), (.ref va)])) rfl rfl (hb hby d9_68)
        have Fw31 : Fld Z h31 va "com/example/paniere/paniere/CompactDecimal$Digits" "significant" "I" (.int ((Int32.ofNat sg) + (1 : Int32))) := Fg.same W31
        have c32 : Exa Z h31 va "com/example/paniere/paniere/CompactDecimal$Digits" := Ea.wr W31
        have c33 : Fld Z h31 va "com/example/paniere/paniere/CompactDecimal$Digits" "high" "J" (.long hw_) := Fh.other W31 (Or.inr (slot_ne (Or.inl (hw _ (List.mem_of_getElem? (i := 48) rfl))) (Or.inl (hw _ (List.mem_of_getElem? (i := 54) rfl))) (by decide) (t := .long) (t' := .int) (by decide) (by decide)))
        have c34 : Fld Z h31 va "com/example/paniere/paniere/CompactDecimal$Digits" "low" "J" (.long lw) := Fl_.other W31 (Or.inr (slot_ne (Or.inl (hw _ (List.mem_of_getElem? (i := 50) rfl))) (Or.inl (hw _ (List.mem_of_getElem? (i := 54) rfl))) (by decide) (t := .long) (t' := .int) (by decide) (by decide)))
        have c35 : Fld Z h31 va "com/example/paniere/paniere/CompactDecimal$Digits" "scale" "I" (.int vsc) := Fs.other W31 (Or.inr (slot_ne (Or.inl (hw _ (List.mem_of_getElem? (i := 52) rfl))) (Or.inl (hw _ (List.mem_of_getElem? (i := 54) rfl))) (by decide) (t := .int) (t' := .int) (by decide) (by decide)))
        have Z31 : n0 ≤ h31.size := Nat.le_trans Z0 (Keep.of_wr W31).1
        have N31 := Fr.snoc X31 N2 g_va
        have K31 : Keep h0 h31 [va] := (Keep.refl h0 [va]).wr W31 (Or.inl (List.mem_of_getElem? (i := 0) rfl))
        have q36 : Fld Z h31 va "com/example/paniere/paniere/CompactDecimal$Digits" "significant" "I" (.int (Int32.ofNat (sg + 1))) := own_one ▸ Fw31
        obtain ⟨T37, X37, e37, st37⟩ := getF X31 hx hZ hown (host := "") (Or.inl (hw _ (List.mem_of_getElem? (i := 53) rfl))) Via.refl e31 q36 (g := (mkF m 72 #[.val (.ref va), .val (.ref vt), .val (.int (Int32.ofNat ne)), .val (.int vsc), .val (.int (Int32.ofNat i)), .val (.int cc)] [(.ref va)])) rfl rfl (hb hby d9_72)
        have pre38 : ∀ t, Steps p.tables e below (T37.setTop (mkF m 77 #[.val (.ref va), .val (.ref vt), .val (.int (Int32.ofNat ne)), .val (.int vsc), .val (.int (Int32.ofNat i)), .val (.int cc)] [(.int (38 : Int32)), (.int (Int32.ofNat (sg + 1)))])) t → Steps p.tables e below (T0.setTop (mkF m 23 #[.val (.ref va), .val (.ref vt), .val (.int (Int32.ofNat ne)), .val (.int vsc), .val (.int (Int32.ofNat i)), s5] [])) t := by
          intro t kt
          refine pre9 t ?_
          show Steps p.tables e below (T8.setTop (mkF m 48 #[.val (.ref va), .val (.ref vt), .val (.int (Int32.ofNat ne)), .val (.int vsc), .val (.int (Int32.ofNat i)), .val (.int cc)] [(.int (Int32.ofNat sg))])) _
          refine XS.ifYes X8.here hx rfl (pc0 := 48) (pc' := 61) rfl (hb hby d9_48) rfl ((if0 _ _).trans (feq (hc10 : ¬ ((Int32.ofNat sg) = (0 : Int32)))).2) (by decide) (by decide) ?_
          show Steps p.tables e below (T8.setTop (mkF m 61 #[.val (.ref va), .val (.ref vt), .val (.int (Int32.ofNat ne)), .val (.int vsc), .val (.int (Int32.ofNat i)), .val (.int cc)] [])) _
          refine XS.aloadN X8.here hx rfl (hb hby d9_61) rfl rfl ?_
          show Steps p.tables e below (T8.setTop (mkF m 62 #[.val (.ref va), .val (.ref vt), .val (.int (Int32.ofNat ne)), .val (.int vsc), .val (.int (Int32.ofNat i)), .val (.int cc)] [(.ref va)])) _
          refine XS.dup X8.here hx rfl (hb hby d9_62) rfl rfl ?_
          show Steps p.tables e below (T8.setTop (mkF m 63 #[.val (.ref va), .val (.ref vt), .val (.int (Int32.ofNat ne)), .val (.int vsc), .val (.int (Int32.ofNat i)), .val (.int cc)] [(.ref va), (.ref va)])) _
          refine st30 _ ?_
          show Steps p.tables e below (T30.setTop (mkF m 66 #[.val (.ref va), .val (.ref vt), .val (.int (Int32.ofNat ne)), .val (.int vsc), .val (.int (Int32.ofNat i)), .val (.int cc)] [(.int (Int32.ofNat sg)), (.ref va)])) _
          refine XS.iconst X30.here hx rfl (hb hby d9_66) ?_
          show Steps p.tables e below (T30.setTop (mkF m 67 #[.val (.ref va), .val (.ref vt), .val (.int (Int32.ofNat ne)), .val (.int vsc), .val (.int (Int32.ofNat i)), .val (.int cc)] [(.int (1 : Int32)), (.int (Int32.ofNat sg)), (.ref va)])) _
          refine XS.iadd X30.here hx rfl (hb hby d9_67) rfl ?_
          show Steps p.tables e below (T30.setTop (mkF m 68 #[.val (.ref va), .val (.ref vt), .val (.int (Int32.ofNat ne)), .val (.int vsc), .val (.int (Int32.ofNat i)), .val (.int cc)] [(.int ((Int32.ofNat sg) + (1 : Int32))), (.ref va)])) _
          refine st31 _ ?_
          show Steps p.tables e below (T31.setTop (mkF m 71 #[.val (.ref va), .val (.ref vt), .val (.int (Int32.ofNat ne)), .val (.int vsc), .val (.int (Int32.ofNat i)), .val (.int cc)] [])) _
          refine XS.aloadN X31.here hx rfl (hb hby d9_71) rfl rfl ?_
          show Steps p.tables e below (T31.setTop (mkF m 72 #[.val (.ref va), .val (.ref vt), .val (.int (Int32.ofNat ne)), .val (.int vsc), .val (.int (Int32.ofNat i)), .val (.int cc)] [(.ref va)])) _
          refine st37 _ ?_
          show Steps p.tables e below (T37.setTop (mkF m 75 #[.val (.ref va), .val (.ref vt), .val (.int (Int32.ofNat ne)), .val (.int vsc), .val (.int (Int32.ofNat i)), .val (.int cc)] [(.int (Int32.ofNat (sg + 1)))])) _
          refine XS.bipush X37.here hx rfl (hb hby d9_75) ?_
          exact kt
        by_cases hc39 : (38 : Int32) < (Int32.ofNat (sg + 1))
        ·
          have pre40 : ∀ t, Steps p.tables e below (T37.setTop (mkF m 80 #[.val (.ref va), .val (.ref vt), .val (.int (Int32.ofNat ne)), .val (.int vsc), .val (.int (Int32.ofNat i)), .val (.int cc)] [])) t → Steps p.tables e below (T0.setTop (mkF m 23 #[.val (.ref va), .val (.ref vt), .val (.int (Int32.ofNat ne)), .val (.int vsc), .val (.int (Int32.ofNat i)), s5] [])) t := by
            intro t kt
            refine pre38 t ?_
            show Steps p.tables e below (T37.setTop (mkF m 77 #[.val (.ref va), .val (.ref vt), .val (.int (Int32.ofNat ne)), .val (.int vsc), .val (.int (Int32.ofNat i)), .val (.int cc)] [(.int (38 : Int32)), (.int (Int32.ofNat (sg + 1)))])) _
            refine XS.icmpNo X37.here hx rfl (hb hby d9_77) rfl (tlt (hc39 : (38 : Int32) < (Int32.ofNat (sg + 1)))).2.2.2 ?_
            exact kt
          exact ⟨T37, h31, _, 80, _, X37, e37, N31, K31, c32, ⟨_, _, c33, c34⟩, c35, (by rw [own_rdk, if_neg (fun q => hc5 (hcc.trans q)), if_neg (fun q => hc10 ((own_eq0 (by omega)).mpr q.1)), if_pos ((own_lt32 (i := 38) (by omega) (by omega)).mp hc39)]; exact q36), (hb hby d9_80), fun t kt => pre40 t kt⟩
        ·
          obtain ⟨cq41, q41, q41'⟩ := c32.cell
          obtain ⟨_, _, ⟨T41, L41, k41, n41⟩, -, X41, ⟨Lc41, hQ41, l41, y41, z41⟩, st41⟩ := X37.privateBack hx (y := (⟨"com/example/paniere/paniere/CompactDecimal$Digits", "appendDigit", "(I)V"⟩ : MethodName)) hown (mvT hZ (hw _ (List.mem_of_getElem? (i := 84) rfl))) (mvT hZ (hw _ (List.mem_of_getElem? (i := 85) rfl))) (own_selp (mvT hZ (hw _ (List.mem_of_getElem? (i := 36) rfl))) (Cond.privateMethod_at (mvP hZ (hw _ (List.mem_of_getElem? (i := 86) rfl)) (args := #[]))) (mvT hZ (hw _ (List.mem_of_getElem? (i := 85) rfl)))) (Cond.privateMethod_at (mvP hZ (hw _ (List.mem_of_getElem? (i := 86) rfl)) (args := #[]))) (mvT hZ (hw _ (List.mem_of_getElem? (i := 87) rfl))) (by decide) (backOf (W := 0) (rm16 l Z a0 hw [] va (cc - (48 : Int32)) hw_ lw vsc (Int32.ofNat (sg + 1)) h31 n0 Z31 c32 c33 c34 c35 q36 g_va) hZ (hw _ (List.mem_of_getElem? (i := 87) rfl)) (hw _ (List.mem_of_getElem? (i := 37) rfl)) (by decide) (by decide)) (g := (mkF m 87 #[.val (.ref va), .val (.ref vt), .val (.int (Int32.ofNat ne)), .val (.int vsc), .val (.int (Int32.ofNat i)), .val (.int cc)] [(.int (cc - (48 : Int32))), (.ref va)])) rfl (by rw [hml]; rfl) (Steps.refl _) (a := va) (by rw [e37]; exact q41) q41' (argsL := [(.int (cc - (48 : Int32)))]) (rest := []) (lenOf pd_3 rfl) rfl (by show 2 * 0 + _ ≤ _; exact Nat.le_of_eq rfl) (hb hby d9_87) (fun _ _ => ⟨rfl, e37, (by decide : 0 + 0 ≤ _), (by decide : 0 + 0 ≤ _)⟩)
          dsimp only [Pt.U, Pt.locs, Pt.cells, Pt.slots] at X41 l41 y41 z41 st41 hQ41
          subst l41 y41 z41
          obtain ⟨rfl, N41q, K41q, f41_0, uh41, ul41, fp41_0, fp41_1, fp41_2, fp41_3⟩ := hQ41
          have N41 := Fr.app N31 N41q
          have Z41 : n0 ≤ T41.heap.size := Nat.le_trans Z31 K41q.1
          have c42 : Exa Z T41.heap va "com/example/paniere/paniere/CompactDecimal$Digits" := c32.keep K41q
          have K41 : Keep h0 T41.heap [va] := K31.trans K41q (allS (Or.inl (List.mem_of_getElem? (i := 0) rfl)) all0)
          have pre43 : ∀ t, Steps p.tables e below (T41.setTop (mkF m 23 #[.val (.ref va), .val (.ref vt), .val (.int (Int32.ofNat ne)), .val (.int vsc), .val (.int ((Int32.ofNat i) + (1 : Int32))), .val (.int cc)] [])) t → Steps p.tables e below (T0.setTop (mkF m 23 #[.val (.ref va), .val (.ref vt), .val (.int (Int32.ofNat ne)), .val (.int vsc), .val (.int (Int32.ofNat i)), s5] [])) t := by
            intro t kt
            refine pre38 t ?_
            show Steps p.tables e below (T37.setTop (mkF m 77 #[.val (.ref va), .val (.ref vt), .val (.int (Int32.ofNat ne)), .val (.int vsc), .val (.int (Int32.ofNat i)), .val (.int cc)] [(.int (38 : Int32)), (.int (Int32.ofNat (sg + 1)))])) _
            refine XS.icmpYes X37.here hx rfl (pc0 := 77) (pc' := 81) rfl (hb hby d9_77) rfl (flt (hc39 : ¬ ((38 : Int32) < (Int32.ofNat (sg + 1))))).2.2.2 (by decide) (by decide) ?_
            show Steps p.tables e below (T37.setTop (mkF m 81 #[.val (.ref va), .val (.ref vt), .val (.int (Int32.ofNat ne)), .val (.int vsc), .val (.int (Int32.ofNat i)), .val (.int cc)] [])) _
            refine XS.aloadN X37.here hx rfl (hb hby d9_81) rfl rfl ?_
            show Steps p.tables e below (T37.setTop (mkF m 82 #[.val (.ref va), .val (.ref vt), .val (.int (Int32.ofNat ne)), .val (.int vsc), .val (.int (Int32.ofNat i)), .val (.int cc)] [(.ref va)])) _
            refine XS.iload X37.here hx rfl (hb hby d9_82) rfl ?_
            show Steps p.tables e below (T37.setTop (mkF m 84 #[.val (.ref va), .val (.ref vt), .val (.int (Int32.ofNat ne)), .val (.int vsc), .val (.int (Int32.ofNat i)), .val (.int cc)] [(.int cc), (.ref va)])) _
            refine XS.bipush X37.here hx rfl (hb hby d9_84) ?_
            show Steps p.tables e below (T37.setTop (mkF m 86 #[.val (.ref va), .val (.ref vt), .val (.int (Int32.ofNat ne)), .val (.int vsc), .val (.int (Int32.ofNat i)), .val (.int cc)] [(.int (48 : Int32)), (.int cc), (.ref va)])) _
            refine XS.isub X37.here hx rfl (hb hby d9_86) rfl ?_
            show Steps p.tables e below (T37.setTop (mkF m 87 #[.val (.ref va), .val (.ref vt), .val (.int (Int32.ofNat ne)), .val (.int vsc), .val (.int (Int32.ofNat i)), .val (.int cc)] [(.int (cc - (48 : Int32))), (.ref va)])) _
            refine st41.trans ?_
            show Steps p.tables e below (T41.setTop (mkF m 90 #[.val (.ref va), .val (.ref vt), .val (.int (Int32.ofNat ne)), .val (.int vsc), .val (.int (Int32.ofNat i)), .val (.int cc)] [])) _
            refine XS.iinc X41.here hx rfl (hb hby d9_90) rfl (l' := #[.val (.ref va), .val (.ref vt), .val (.int (Int32.ofNat ne)), .val (.int vsc), .val (.int ((Int32.ofNat i) + (1 : Int32))), .val (.int cc)]) rfl ?_
            show Steps p.tables e below (T41.setTop (mkF m 93 #[.val (.ref va), .val (.ref vt), .val (.int (Int32.ofNat ne)), .val (.int vsc), .val (.int ((Int32.ofNat i) + (1 : Int32))), .val (.int cc)] [])) _
            refine XS.goto X41.here hx rfl (pc0 := 93) (pc' := 23) rfl (hb hby d9_93) (by decide) (by decide) ?_
            exact kt
          rw [own_one] at pre43
          obtain ⟨T44, h44, locs44, pcx44, Lx44, X44, e44, N44, K44, po44_0, po44_1, po44_2, po44_3, po44_4, run44⟩ := ih (i + 1) (sg + 1) (uh41) (ul41) (.val (.int cc)) T41 _ T41.heap X41 rfl N41 Z41 (by omega) (by have q := mt (own_lt32 (i := 38) (by omega) (by omega)).mpr hc39; omega) (by omega) (One.val rfl) (KS.trans K41 (allS (Or.inl (List.mem_of_getElem? (i := 0) rfl)) all0)) f41_0 fp41_0 fp41_1 fp41_2 fp41_3
          exact ⟨T44, h44, locs44, pcx44, Lx44, X44, e44, N44, K41.trans K44 (allS (Or.inl (List.mem_of_getElem? (i := 0) rfl)) all0), po44_0, po44_1, po44_2, (by rw [own_rdk, if_neg (fun q => hc5 (hcc.trans q)), if_neg (fun q => hc10 ((own_eq0 (by omega)).mpr q.1)), if_neg (by have q := mt (own_lt32 (i := 38) (by omega) (by omega)).mpr hc39; omega)]; exact po44_3), po44_4, fun t kt => pre43 t (run44 t kt)⟩
theorem d9_0 : decode prog_7_method_2_code 0 = .ok (.aload_n 0, 1) := by decide +kernel
theorem d9_1 : decode prog_7_method_2_code 1 = .ok (.lconst 0, 1) := by decide +kernel
theorem d9_2 : decode prog_7_method_2_code 2 = .ok (.putfield 9, 3) := by decide +kernel
theorem d9_5 : decode prog_7_method_2_code 5 = .ok (.aload_n 0, 1) := by decide +kernel
theorem d9_6 : decode prog_7_method_2_code 6 = .ok (.lconst 0, 1) := by decide +kernel
theorem d9_7 : decode prog_7_method_2_code 7 = .ok (.putfield 15, 3) := by decide +kernel
theorem d9_10 : decode prog_7_method_2_code 10 = .ok (.aload_n 0, 1) := by decide +kernel
theorem d9_11 : decode prog_7_method_2_code 11 = .ok (.iload_n 3, 1) := by decide +kernel
theorem d9_12 : decode prog_7_method_2_code 12 = .ok (.putfield 18, 3) := by decide +kernel
theorem d9_15 : decode prog_7_method_2_code 15 = .ok (.aload_n 0, 1) := by decide +kernel
theorem d9_16 : decode prog_7_method_2_code 16 = .ok (.iconst 0, 1) := by decide +kernel
theorem d9_17 : decode prog_7_method_2_code 17 = .ok (.putfield 22, 3) := by decide +kernel
theorem d9_20 : decode prog_7_method_2_code 20 = .ok (.iconst 0, 1) := by decide +kernel
theorem d9_21 : decode prog_7_method_2_code 21 = .ok (.istore 4, 2) := by decide +kernel
theorem ef_rm9 (m : MethodId) (x0 : Addr) (x1 : Addr) (x2 : Int32) (x3 : Int32) : entryFrame m #[(.ref x0), (.ref x1), (.int x2), (.int x3)] 6 = mkF m 0 #[.val (.ref x0), .val (.ref x1), .val (.int x2), .val (.int x3), .unset, .unset] [] := by first | (simp [entryFrame, mkF, argsToLocals, Value.category]; done) | rfl
def Q9 (Z : State) (va : Addr) (vt : Addr) (vsc : Int32) (vb : Addr) (kb : ClassId) (NN : Int32) (cs : List Int32) (vz : Int32) (fm : Value) (ne : Nat) (u0 u1 u2 u3 : Value) (h0 : Heap) (n0 : Nat) (v : Option Value) (h : Heap) (L : List Loc) : Prop := v = none ∧ Fr n0 L ∧ Keep h0 h [va] ∧ Exa Z h va "com/example/paniere/paniere/CompactDecimal$Digits" ∧ ∃ uh ul : Int64, Fld Z h va "com/example/paniere/paniere/CompactDecimal$Digits" "high" "J" (.long uh) ∧ Fld Z h va "com/example/paniere/paniere/CompactDecimal$Digits" "low" "J" (.long ul) ∧ Fld Z h va "com/example/paniere/paniere/CompactDecimal$Digits" "scale" "I" (.int vsc) ∧ Fld Z h va "com/example/paniere/paniere/CompactDecimal$Digits" "significant" "I" (.int (Int32.ofNat (own_rdk cs ne 0 0)))
set_option maxRecDepth 65536 in
set_option maxHeartbeats 40000000 in
theorem rm9 (l : Launch) (Z : State) (a0 : Array Value) (hw : ∀ d ∈ tables_1, d.before a0 Z = true) (ws : List Jvm.Cond) (va : Addr) (vt : Addr) (vsc : Int32) (vb : Addr) (kb : ClassId) (NN : Int32) (cs : List Int32) (vz : Int32) (fm : Value) (ne : Nat) (u0 u1 u2 u3 : Value) (h0 : Heap) (n0 : Nat) (Z0 : n0 ≤ h0.size) (Ea : Exa Z h0 va "com/example/paniere/paniere/CompactDecimal$Digits") (Fu0 : Fld Z h0 va "com/example/paniere/paniere/CompactDecimal$Digits" "high" "J" u0) (Fu1 : Fld Z h0 va "com/example/paniere/paniere/CompactDecimal$Digits" "low" "J" u1) (Fu2 : Fld Z h0 va "com/example/paniere/paniere/CompactDecimal$Digits" "scale" "I" u2) (Fu3 : Fld Z h0 va "com/example/paniere/paniere/CompactDecimal$Digits" "significant" "I" u3) (Et : Exa Z h0 vt "java/lang/String") (Ftv : Fld Z h0 vt "java/lang/String" "value" "[B" (.ref vb)) (Ftc : Fld Z h0 vt "java/lang/String" "coder" "B" (.int (0 : Int32))) (Vb : Arv Z h0 vb kb .byte NN (List.map Value.int (List.map (fun c => c.toInt8.toInt32) cs)) (.int (0 : Int32))) (S_cs : Sta Z h0 "java/lang/String" "COMPACT_STRINGS" "Z" (.int vz)) (S_fm : Sta Z h0 "jdk/internal/util/Preconditions" "SIOOBE_FORMATTER" "Ljava/util/function/BiFunction;" fm) (g_va : n0 ≤ va) (nat_ : va ≠ vt) (nab_ : va ≠ vb) (hcd : StrChars.Road.CodA cs 0 NN (List.map Value.int (List.map (fun c => c.toInt8.toInt32) cs))) (hbd : ∀ c ∈ cs, ¬ c < 0 ∧ ¬ (65535 : Int32) < c) (hcs : ¬ vz = 0) (rfm : fm.isRef = true) (hl4 : cs.length ≤ 4000) (hnc : ne ≤ cs.length) :
    MetFree l (⟨"com/example/paniere/paniere/CompactDecimal$Digits", "read", "(Ljava/lang/String;II)V"⟩ : MethodName) (head1 (Jvm.Cond.code (⟨"com/example/paniere/paniere/CompactDecimal$Digits", "read", "(Ljava/lang/String;II)V"⟩ : MethodName) prog_7_method_2_code 6 none :: ws) ({ frames := 4, cells := 0, slots := 0, locals := 64 } : Room)) (fun a U => a = #[(.ref va), (.ref vt), (.int (Int32.ofNat ne)), (.int vsc)] ∧ Z.Warmed39 U.vm ∧ U.heap = h0) (fun _ _ _ _ _ => True) (fun _ U o U' => ∃ v L, o = .returned v ∧ Q9 Z va vt vsc vb kb NN cs vz fm ne u0 u1 u2 u3 h0 n0 v U'.heap L ∧ FrameEnd U o U' L ({ frames := 4, cells := 0, slots := 0, locals := 64 } : Room).cells ({ frames := 4, cells := 0, slots := 0, locals := 64 } : Room).slots) := by
  refine MetFree.of_bodySF (plainFor_of_name pn_152) hisR ?_
  intro p e s m args below meth c s₁ Bd hml0 hP hK
  obtain ⟨rfl, hZ, hh⟩ := hP
  have hx := Bd.exec
  have hby := Bd.bytes
  have hml : c.maxLocals = 6 := hml0
  have hown : s.vm.findClass "com/example/paniere/paniere/CompactDecimal$Digits" = some m.cls := findClass_of_methodNamed Bd.named
  have hnm := (name_of_methodNamed Bd.named Bd.method).1
  have X0 : Stand p l e ({ frames := 4, cells := 0, slots := 0, locals := 64 } : Room) s m #[(.ref va), (.ref vt), (.int (Int32.ofNat ne)), (.int vsc)] below meth c s₁ [] 0 0 := Stand.of_body Bd
  have e0 : s₁.heap = h0 := by rw [← hh, Bd.state]; rfl
  have N0 := Fr.nil n0
  have pre0 : ∀ t, Steps p.tables e below (s₁.setTop (mkF m 0 #[.val (.ref va), .val (.ref vt), .val (.int (Int32.ofNat ne)), .val (.int vsc), .unset, .unset] [])) t → Steps p.tables e below (s₁.setTop (entryFrame m #[(.ref va), (.ref vt), (.int (Int32.ofNat ne)), (.int vsc)] 6)) t := fun t k => castTop (ef_rm9 m va vt (Int32.ofNat ne) vsc) k
  obtain ⟨T1, h1, X1, e1, W1, st1⟩ := putF X0 hx hZ hown (host := "") (Or.inl (hw _ (List.mem_of_getElem? (i := 47) rfl))) Via.refl e0 Fu0 Ea (Or.inl (hw _ (List.mem_of_getElem? (i := 48) rfl))) (hw _ (List.mem_of_getElem? (i := 36) rfl)) (ty := .long) (by decide) rfl rfl (g := (mkF m 2 #[.val (.ref va), .val (.ref vt), .val (.int (Int32.ofNat ne)), .val (.int vsc), .unset, .unset] [(.long (0 : Int64)), (.ref va)])) rfl rfl (hb hby d9_2)
  have Fw1 : Fld Z h1 va "com/example/paniere/paniere/CompactDecimal$Digits" "high" "J" (.long (0 : Int64)) := Fu0.same W1
  have c2 : Exa Z h1 va "com/example/paniere/paniere/CompactDecimal$Digits" := Ea.wr W1
  have c3 : Fld Z h1 va "com/example/paniere/paniere/CompactDecimal$Digits" "low" "J" u1 := Fu1.other W1 (Or.inr (slot_ne (Or.inl (hw _ (List.mem_of_getElem? (i := 50) rfl))) (Or.inl (hw _ (List.mem_of_getElem? (i := 48) rfl))) (by decide) (t := .long) (t' := .long) (by decide) (by decide)))
  have c4 : Fld Z h1 va "com/example/paniere/paniere/CompactDecimal$Digits" "scale" "I" u2 := Fu2.other W1 (Or.inr (slot_ne (Or.inl (hw _ (List.mem_of_getElem? (i := 52) rfl))) (Or.inl (hw _ (List.mem_of_getElem? (i := 48) rfl))) (by decide) (t := .int) (t' := .long) (by decide) (by decide)))
  have c5 : Fld Z h1 va "com/example/paniere/paniere/CompactDecimal$Digits" "significant" "I" u3 := Fu3.other W1 (Or.inr (slot_ne (Or.inl (hw _ (List.mem_of_getElem? (i := 54) rfl))) (Or.inl (hw _ (List.mem_of_getElem? (i := 48) rfl))) (by decide) (t := .int) (t' := .long) (by decide) (by decide)))
  have c6 : Exa Z h1 vt "java/lang/String" := Et.wr W1
  have c7 : Fld Z h1 vt "java/lang/String" "value" "[B" (.ref vb) := Ftv.other W1 (Or.inl (Ne.symm nat_))
  have c8 : Fld Z h1 vt "java/lang/String" "coder" "B" (.int (0 : Int32)) := Ftc.other W1 (Or.inl (Ne.symm nat_))
  have c9 : Arv Z h1 vb kb .byte NN (List.map Value.int (List.map (fun c => c.toInt8.toInt32) cs)) (.int (0 : Int32)) := Vb.other W1 (Ne.symm nab_)
  have c10 : Sta Z h1 "java/lang/String" "COMPACT_STRINGS" "Z" (.int vz) := S_cs.wr W1
  have c11 : Sta Z h1 "jdk/internal/util/Preconditions" "SIOOBE_FORMATTER" "Ljava/util/function/BiFunction;" fm := S_fm.wr W1
  have Z1 : n0 ≤ h1.size := Nat.le_trans Z0 (Keep.of_wr W1).1
  have N1 := Fr.snoc X1 N0 g_va
  have K1 : Keep h0 h1 [va] := (Keep.refl h0 [va]).wr W1 (Or.inl (List.mem_of_getElem? (i := 0) rfl))
  obtain ⟨T12, h12, X12, e12, W12, st12⟩ := putF X1 hx hZ hown (host := "") (Or.inl (hw _ (List.mem_of_getElem? (i := 49) rfl))) Via.refl e1 c3 c2 (Or.inl (hw _ (List.mem_of_getElem? (i := 50) rfl))) (hw _ (List.mem_of_getElem? (i := 36) rfl)) (ty := .long) (by decide) rfl rfl (g := (mkF m 7 #[.val (.ref va), .val (.ref vt), .val (.int (Int32.ofNat ne)), .val (.int vsc), .unset, .unset] [(.long (0 : Int64)), (.ref va)])) rfl rfl (hb hby d9_7)
  have Fw12 : Fld Z h12 va "com/example/paniere/paniere/CompactDecimal$Digits" "low" "J" (.long (0 : Int64)) := c3.same W12
  have c13 : Exa Z h12 va "com/example/paniere/paniere/CompactDecimal$Digits" := c2.wr W12
  have c14 : Fld Z h12 va "com/example/paniere/paniere/CompactDecimal$Digits" "high" "J" (.long (0 : Int64)) := Fw1.other W12 (Or.inr (slot_ne (Or.inl (hw _ (List.mem_of_getElem? (i := 48) rfl))) (Or.inl (hw _ (List.mem_of_getElem? (i := 50) rfl))) (by decide) (t := .long) (t' := .long) (by decide) (by decide)))
  have c15 : Fld Z h12 va "com/example/paniere/paniere/CompactDecimal$Digits" "scale" "I" u2 := c4.other W12 (Or.inr (slot_ne (Or.inl (hw _ (List.mem_of_getElem? (i := 52) rfl))) (Or.inl (hw _ (List.mem_of_getElem? (i := 50) rfl))) (by decide) (t := .int) (t' := .long) (by decide) (by decide)))
  have c16 : Fld Z h12 va "com/example/paniere/paniere/CompactDecimal$Digits" "significant" "I" u3 := c5.other W12 (Or.inr (slot_ne (Or.inl (hw _ (List.mem_of_getElem? (i := 54) rfl))) (Or.inl (hw _ (List.mem_of_getElem? (i := 50) rfl))) (by decide) (t := .int) (t' := .long) (by decide) (by decide)))
  have c17 : Exa Z h12 vt "java/lang/String" := c6.wr W12
  have c18 : Fld Z h12 vt "java/lang/String" "value" "[B" (.ref vb) := c7.other W12 (Or.inl (Ne.symm nat_))
  have c19 : Fld Z h12 vt "java/lang/String" "coder" "B" (.int (0 : Int32)) := c8.other W12 (Or.inl (Ne.symm nat_))
  have c20 : Arv Z h12 vb kb .byte NN (List.map Value.int (List.map (fun c => c.toInt8.toInt32) cs)) (.int (0 : Int32)) := c9.other W12 (Ne.symm nab_)
  have c21 : Sta Z h12 "java/lang/String" "COMPACT_STRINGS" "Z" (.int vz) := c10.wr W12
  have c22 : Sta Z h12 "jdk/internal/util/Preconditions" "SIOOBE_FORMATTER" "Ljava/util/function/BiFunction;" fm := c11.wr W12
  have Z12 : n0 ≤ h12.size := Nat.le_trans Z1 (Keep.of_wr W12).1
  have N12 := Fr.snoc X12 N1 g_va
  have K12 : Keep h0 h12 [va] := K1.wr W12 (Or.inl (List.mem_of_getElem? (i := 0) rfl))
  obtain ⟨T23, h23, X23, e23, W23, st23⟩ := putF X12 hx hZ hown (host := "") (Or.inl (hw _ (List.mem_of_getElem? (i := 51) rfl))) Via.refl e12 c15 c13 (Or.inl (hw _ (List.mem_of_getElem? (i := 52) rfl))) (hw _ (List.mem_of_getElem? (i := 36) rfl)) (ty := .int) (by decide) rfl rfl (g := (mkF m 12 #[.val (.ref va), .val (.ref vt), .val (.int (Int32.ofNat ne)), .val (.int vsc), .unset, .unset] [(.int vsc), (.ref va)])) rfl rfl (hb hby d9_12)
  have Fw23 : Fld Z h23 va "com/example/paniere/paniere/CompactDecimal$Digits" "scale" "I" (.int vsc) := c15.same W23
  have c24 : Exa Z h23 va "com/example/paniere/paniere/CompactDecimal$Digits" := c13.wr W23
  have c25 : Fld Z h23 va "com/example/paniere/paniere/CompactDecimal$Digits" "high" "J" (.long (0 : Int64)) := c14.other W23 (Or.inr (slot_ne (Or.inl (hw _ (List.mem_of_getElem? (i := 48) rfl))) (Or.inl (hw _ (List.mem_of_getElem? (i := 52) rfl))) (by decide) (t := .long) (t' := .int) (by decide) (by decide)))
  have c26 : Fld Z h23 va "com/example/paniere/paniere/CompactDecimal$Digits" "low" "J" (.long (0 : Int64)) := Fw12.other W23 (Or.inr (slot_ne (Or.inl (hw _ (List.mem_of_getElem? (i := 50) rfl))) (Or.inl (hw _ (List.mem_of_getElem? (i := 52) rfl))) (by decide) (t := .long) (t' := .int) (by decide) (by decide)))
  have c27 : Fld Z h23 va "com/example/paniere/paniere/CompactDecimal$Digits" "significant" "I" u3 := c16.other W23 (Or.inr (slot_ne (Or.inl (hw _ (List.mem_of_getElem? (i := 54) rfl))) (Or.inl (hw _ (List.mem_of_getElem? (i := 52) rfl))) (by decide) (t := .int) (t' := .int) (by decide) (by decide)))
  have c28 : Exa Z h23 vt "java/lang/String" := c17.wr W23
  have c29 : Fld Z h23 vt "java/lang/String" "value" "[B" (.ref vb) := c18.other W23 (Or.inl (Ne.symm nat_))
  have c30 : Fld Z h23 vt "java/lang/String" "coder" "B" (.int (0 : Int32)) := c19.other W23 (Or.inl (Ne.symm nat_))
  have c31 : Arv Z h23 vb kb .byte NN (List.map Value.int (List.map (fun c => c.toInt8.toInt32) cs)) (.int (0 : Int32)) := c20.other W23 (Ne.symm nab_)
  have c32 : Sta Z h23 "java/lang/String" "COMPACT_STRINGS" "Z" (.int vz) := c21.wr W23
  have c33 : Sta Z h23 "jdk/internal/util/Preconditions" "SIOOBE_FORMATTER" "Ljava/util/function/BiFunction;" fm := c22.wr W23
  have Z23 : n0 ≤ h23.size := Nat.le_trans Z12 (Keep.of_wr W23).1
  have N23 := Fr.snoc X23 N12 g_va
  have K23 : Keep h0 h23 [va] := K12.wr W23 (Or.inl (List.mem_of_getElem? (i := 0) rfl))
  obtain ⟨T34, h34, X34, e34, W34, st34⟩ := putF X23 hx hZ hown (host := "") (Or.inl (hw _ (List.mem_of_getElem? (i := 53) rfl))) Via.refl e23 c27 c24 (Or.inl (hw _ (List.mem_of_getElem? (i := 54) rfl))) (hw _ (List.mem_of_getElem? (i := 36) rfl)) (ty := .int) (by decide) rfl rfl (g := (mkF m 17 #[.val (.ref va), .val (.ref vt), .val (.int (Int32.ofNat ne)), .val (.int vsc), .unset, .unset] [(.int (0 : Int32)), (.ref va)])) rfl rfl (hb hby d9_17)
  have Fw34 : Fld Z h34 va "com/example/paniere/paniere/CompactDecimal$Digits" "significant" "I" (.int (0 : Int32)) := c27.same W34
  have c35 : Exa Z h34 va "com/example/paniere/paniere/CompactDecimal$Digits" := c24.wr W34
  have c36 : Fld Z h34 va "com/example/paniere/paniere/CompactDecimal$Digits" "high" "J" (.long (0 : Int64)) := c25.other W34 (Or.inr (slot_ne (Or.inl (hw _ (List.mem_of_getElem? (i := 48) rfl))) (Or.inl (hw _ (List.mem_of_getElem? (i := 54) rfl))) (by decide) (t := .long) (t' := .int) (by decide) (by decide)))
  have c37 : Fld Z h34 va "com/example/paniere/paniere/CompactDecimal$Digits" "low" "J" (.long (0 : Int64)) := c26.other W34 (Or.inr (slot_ne (Or.inl (hw _ (List.mem_of_getElem? (i := 50) rfl))) (Or.inl (hw _ (List.mem_of_getElem? (i := 54) rfl))) (by decide) (t := .long) (t' := .int) (by decide) (by decide)))
  have c38 : Fld Z h34 va "com/example/paniere/paniere/CompactDecimal$Digits" "scale" "I" (.int vsc) := Fw23.other W34 (Or.inr (slot_ne (Or.inl (hw _ (List.mem_of_getElem? (i := 52) rfl))) (Or.inl (hw _ (List.mem_of_getElem? (i := 54) rfl))) (by decide) (t := .int) (t' := .int) (by decide) (by decide)))
  have c39 : Exa Z h34 vt "java/lang/String" := c28.wr W34
  have c40 : Fld Z h34 vt "java/lang/String" "value" "[B" (.ref vb) := c29.other W34 (Or.inl (Ne.symm nat_))
  have c41 : Fld Z h34 vt "java/lang/String" "coder" "B" (.int (0 : Int32)) := c30.other W34 (Or.inl (Ne.symm nat_))
  have c42 : Arv Z h34 vb kb .byte NN (List.map Value.int (List.map (fun c => c.toInt8.toInt32) cs)) (.int (0 : Int32)) := c31.other W34 (Ne.symm nab_)
  have c43 : Sta Z h34 "java/lang/String" "COMPACT_STRINGS" "Z" (.int vz) := c32.wr W34
  have c44 : Sta Z h34 "jdk/internal/util/Preconditions" "SIOOBE_FORMATTER" "Ljava/util/function/BiFunction;" fm := c33.wr W34
  have Z34 : n0 ≤ h34.size := Nat.le_trans Z23 (Keep.of_wr W34).1
  have N34 := Fr.snoc X34 N23 g_va
  have K34 : Keep h0 h34 [va] := K23.wr W34 (Or.inl (List.mem_of_getElem? (i := 0) rfl))
  have pre45 : ∀ t, Steps p.tables e below (T34.setTop (mkF m 23 #[.val (.ref va), .val (.ref vt), .val (.int (Int32.ofNat ne)), .val (.int vsc), .val (.int (0 : Int32)), .unset] [])) t → Steps p.tables e below (s₁.setTop (entryFrame m #[(.ref va), (.ref vt), (.int (Int32.ofNat ne)), (.int vsc)] 6)) t := by
    intro t kt
    refine pre0 t ?_
    show Steps p.tables e below (s₁.setTop (mkF m 0 #[.val (.ref va), .val (.ref vt), .val (.int (Int32.ofNat ne)), .val (.int vsc), .unset, .unset] [])) _
    refine XS.aloadN X0.here hx rfl (hb hby d9_0) rfl rfl ?_
    show Steps p.tables e below (s₁.setTop (mkF m 1 #[.val (.ref va), .val (.ref vt), .val (.int (Int32.ofNat ne)), .val (.int vsc), .unset, .unset] [(.ref va)])) _
    refine XS.lconst X0.here hx rfl (hb hby d9_1) ?_
    show Steps p.tables e below (s₁.setTop (mkF m 2 #[.val (.ref va), .val (.ref vt), .val (.int (Int32.ofNat ne)), .val (.int vsc), .unset, .unset] [(.long (0 : Int64)), (.ref va)])) _
    refine st1 _ ?_
    show Steps p.tables e below (T1.setTop (mkF m 5 #[.val (.ref va), .val (.ref vt), .val (.int (Int32.ofNat ne)), .val (.int vsc), .unset, .unset] [])) _
    refine XS.aloadN X1.here hx rfl (hb hby d9_5) rfl rfl ?_
    show Steps p.tables e below (T1.setTop (mkF m 6 #[.val (.ref va), .val (.ref vt), .val (.int (Int32.ofNat ne)), .val (.int vsc), .unset, .unset] [(.ref va)])) _
    refine XS.lconst X1.here hx rfl (hb hby d9_6) ?_
    show Steps p.tables e below (T1.setTop (mkF m 7 #[.val (.ref va), .val (.ref vt), .val (.int (Int32.ofNat ne)), .val (.int vsc), .unset, .unset] [(.long (0 : Int64)), (.ref va)])) _
    refine st12 _ ?_
    show Steps p.tables e below (T12.setTop (mkF m 10 #[.val (.ref va), .val (.ref vt), .val (.int (Int32.ofNat ne)), .val (.int vsc), .unset, .unset] [])) _
    refine XS.aloadN X12.here hx rfl (hb hby d9_10) rfl rfl ?_
    show Steps p.tables e below (T12.setTop (mkF m 11 #[.val (.ref va), .val (.ref vt), .val (.int (Int32.ofNat ne)), .val (.int vsc), .unset, .unset] [(.ref va)])) _
    refine XS.iloadN X12.here hx rfl (hb hby d9_11) rfl ?_
    show Steps p.tables e below (T12.setTop (mkF m 12 #[.val (.ref va), .val (.ref vt), .val (.int (Int32.ofNat ne)), .val (.int vsc), .unset, .unset] [(.int vsc), (.ref va)])) _
    refine st23 _ ?_
    show Steps p.tables e below (T23.setTop (mkF m 15 #[.val (.ref va), .val (.ref vt), .val (.int (Int32.ofNat ne)), .val (.int vsc), .unset, .unset] [])) _
    refine XS.aloadN X23.here hx rfl (hb hby d9_15) rfl rfl ?_
    show Steps p.tables e below (T23.setTop (mkF m 16 #[.val (.ref va), .val (.ref vt), .val (.int (Int32.ofNat ne)), .val (.int vsc), .unset, .unset] [(.ref va)])) _
    refine XS.iconst X23.here hx rfl (hb hby d9_16) ?_
    show Steps p.tables e below (T23.setTop (mkF m 17 #[.val (.ref va), .val (.ref vt), .val (.int (Int32.ofNat ne)), .val (.int vsc), .unset, .unset] [(.int (0 : Int32)), (.ref va)])) _
    refine st34 _ ?_
    show Steps p.tables e below (T34.setTop (mkF m 20 #[.val (.ref va), .val (.ref vt), .val (.int (Int32.ofNat ne)), .val (.int vsc), .unset, .unset] [])) _
    refine XS.iconst X34.here hx rfl (hb hby d9_20) ?_
    show Steps p.tables e below (T34.setTop (mkF m 21 #[.val (.ref va), .val (.ref vt), .val (.int (Int32.ofNat ne)), .val (.int vsc), .unset, .unset] [(.int (0 : Int32))])) _
    refine XS.istore X34.here hx rfl (hb hby d9_21) rfl (l' := #[.val (.ref va), .val (.ref vt), .val (.int (Int32.ofNat ne)), .val (.int vsc), .val (.int (0 : Int32)), .unset]) rfl ?_
    exact kt
  obtain ⟨T46, h46, L46, pcx, Lx, X46, e46, N46, K46, pE46, ⟨uh, ul, pH46, pL46⟩, pS46, pG46, hd46, run46⟩ := own_rloop hx hZ hw hby hml hown va vt vb kb NN cs vz fm vsc ne h34 c35 c39 c40 c41 c42 c43 c44  g_va nat_ nab_ hcd hbd hcs rfm hl4 hnc ne 0 0 (0 : Int64) (0 : Int64) .unset T34 _ h34 X34 e34 N34 Z34 (by omega) (by omega) (by omega) One.u (Keep.refl _ _) c35 c36 c37 c38 Fw34
  have KK46 : Keep h0 h46 [va] := K34.trans K46 (allS (Or.inl (List.mem_of_getElem? (i := 0) rfl)) all0)
  obtain ⟨fs, hr, hrun, hended, hW, hsame⟩ := X46.leave (v := none) (fun _ => rfl)
  refine ⟨_, _, pre45 _ ?_, hrun, hended, _, _, rfl, ?_, ⟨_, rfl⟩, hW, hsame.mono (by decide) (by decide)⟩
  ·
    show Steps p.tables e below (T34.setTop (mkF m 23 #[.val (.ref va), .val (.ref vt), .val (.int (Int32.ofNat ne)), .val (.int vsc), .val (.int (0 : Int32)), .unset] [])) _
    refine run46 _ ?_
    exact X46.returnOut hx Bd.returns hd46 hr
  ·
    show Q9 Z va vt vsc vb kb NN cs vz fm ne u0 u1 u2 u3 h0 n0 _ T46.heap _
    rw [e46]
    exact ⟨rfl, N46, KK46, pE46, uh, ul, pH46, pL46, pS46, pG46⟩
theorem d15_0 : decode prog_7_method_4_code 0 = .ok (.aload_n 0, 1) := by decide +kernel
theorem d15_1 : decode prog_7_method_4_code 1 = .ok (.getfield 22, 3) := by decide +kernel
theorem d15_4 : decode prog_7_method_4_code 4 = .ok (.bipush 38, 2) := by decide +kernel
theorem d15_6 : decode prog_7_method_4_code 6 = .ok (.if_icmp .gt 16, 3) := by decide +kernel
theorem d15_22 : decode prog_7_method_4_code 22 = .ok (.iconst 0, 1) := by decide +kernel
theorem d15_23 : decode prog_7_method_4_code 23 = .ok (.ireturn, 1) := by decide +kernel
theorem d15_9 : decode prog_7_method_4_code 9 = .ok (.aload_n 0, 1) := by decide +kernel
theorem d15_10 : decode prog_7_method_4_code 10 = .ok (.getfield 18, 3) := by decide +kernel
theorem d15_13 : decode prog_7_method_4_code 13 = .ok (.bipush 38, 2) := by decide +kernel
theorem d15_15 : decode prog_7_method_4_code 15 = .ok (.if_icmp .gt 7, 3) := by decide +kernel
theorem d15_18 : decode prog_7_method_4_code 18 = .ok (.iconst 1, 1) := by decide +kernel
theorem d15_19 : decode prog_7_method_4_code 19 = .ok (.goto 4, 3) := by decide +kernel
theorem ef_rm15 (m : MethodId) (x0 : Addr) : entryFrame m #[(.ref x0)] 1 = mkF m 0 #[.val (.ref x0)] [] := by first | (simp [entryFrame, mkF, argsToLocals, Value.category]; done) | rfl
def own_two (va : Addr) (vg : Int32) (vsc : Int32) : Int32 := (if (38 : Int32) < vg then (0 : Int32) else (if (38 : Int32) < vsc then (0 : Int32) else (1 : Int32)))
def Q15 (Z : State) (va : Addr) (vg : Int32) (vsc : Int32) (h0 : Heap) (n0 : Nat) (v : Option Value) (h : Heap) (L : List Loc) : Prop := v = some (.int (own_two va vg vsc)) ∧ Fr n0 L ∧ h = h0
set_option maxRecDepth 65536 in
set_option maxHeartbeats 40000000 in
theorem rm15 (l : Launch) (Z : State) (a0 : Array Value) (hw : ∀ d ∈ tables_1, d.before a0 Z = true) (ws : List Jvm.Cond) (va : Addr) (vg : Int32) (vsc : Int32) (h0 : Heap) (n0 : Nat) (Z0 : n0 ≤ h0.size) (Fg : Fld Z h0 va "com/example/paniere/paniere/CompactDecimal$Digits" "significant" "I" (.int vg)) (Fs : Fld Z h0 va "com/example/paniere/paniere/CompactDecimal$Digits" "scale" "I" (.int vsc)) :
    MetFree l (⟨"com/example/paniere/paniere/CompactDecimal$Digits", "inTwoLongs", "()Z"⟩ : MethodName) (head1 (Jvm.Cond.code (⟨"com/example/paniere/paniere/CompactDecimal$Digits", "inTwoLongs", "()Z"⟩ : MethodName) prog_7_method_4_code 1 (some .boolean) :: ws) ({ frames := 0, cells := 0, slots := 0, locals := 0 } : Room)) (fun a U => a = #[(.ref va)] ∧ Z.Warmed39 U.vm ∧ U.heap = h0) (fun _ _ _ _ _ => True) (fun _ U o U' => ∃ v L, o = .returned v ∧ Q15 Z va vg vsc h0 n0 v U'.heap L ∧ FrameEnd U o U' L ({ frames := 0, cells := 0, slots := 0, locals := 0 } : Room).cells ({ frames := 0, cells := 0, slots := 0, locals := 0 } : Room).slots) := by
  refine MetFree.of_bodySF (plainFor_of_name pn_152) hisR ?_
  intro p e s m args below meth c s₁ Bd hml0 hP hK
  obtain ⟨rfl, hZ, hh⟩ := hP
  have hx := Bd.exec
  have hby := Bd.bytes
  have hml : c.maxLocals = 1 := hml0
  have hown : s.vm.findClass "com/example/paniere/paniere/CompactDecimal$Digits" = some m.cls := findClass_of_methodNamed Bd.named
  have hnm := (name_of_methodNamed Bd.named Bd.method).1
  have X0 : Stand p l e ({ frames := 0, cells := 0, slots := 0, locals := 0 } : Room) s m #[(.ref va)] below meth c s₁ [] 0 0 := Stand.of_body Bd
  have e0 : s₁.heap = h0 := by rw [← hh, Bd.state]; rfl
  have N0 := Fr.nil n0
  have pre0 : ∀ t, Steps p.tables e below (s₁.setTop (mkF m 0 #[.val (.ref va)] [])) t → Steps p.tables e below (s₁.setTop (entryFrame m #[(.ref va)] 1)) t := fun t k => castTop (ef_rm15 m va) k
  obtain ⟨T1, X1, e1, st1⟩ := getF X0 hx hZ hown (host := "") (Or.inl (hw _ (List.mem_of_getElem? (i := 53) rfl))) Via.refl e0 Fg (g := (mkF m 1 #[.val (.ref va)] [(.ref va)])) rfl rfl (hb hby d15_1)
  have pre2 : ∀ t, Steps p.tables e below (T1.setTop (mkF m 6 #[.val (.ref va)] [(.int (38 : Int32)), (.int vg)])) t → Steps p.tables e below (s₁.setTop (entryFrame m #[(.ref va)] 1)) t := by
    intro t kt
    refine pre0 t ?_
    show Steps p.tables e below (s₁.setTop (mkF m 0 #[.val (.ref va)] [])) _
    refine XS.aloadN X0.here hx rfl (hb hby d15_0) rfl rfl ?_
    show Steps p.tables e below (s₁.setTop (mkF m 1 #[.val (.ref va)] [(.ref va)])) _
    refine st1 _ ?_
    show Steps p.tables e below (T1.setTop (mkF m 4 #[.val (.ref va)] [(.int vg)])) _
    refine XS.bipush X1.here hx rfl (hb hby d15_4) ?_
    exact kt
  by_cases hc3 : (38 : Int32) < vg
  ·
    obtain ⟨fs, hr, hrun, hended, hW, hsame⟩ := X1.leave (v := some (.int (0 : Int32))) (fun h => by rw [Bd.returns] at h; cases h) (hlocks := BodyLoose.notSynchronized Bd)
    refine ⟨_, _, pre2 _ ?_, hrun, hended, _, _, rfl, ?_, ⟨_, rfl⟩, hW, hsame.mono (by decide) (by decide)⟩
    ·
      show Steps p.tables e below (T1.setTop (mkF m 6 #[.val (.ref va)] [(.int (38 : Int32)), (.int vg)])) _
      refine XS.icmpYes X1.here hx rfl (pc0 := 6) (pc' := 22) rfl (hb hby d15_6) rfl (tlt (hc3 : (38 : Int32) < vg)).2.2.1 (by decide) (by decide) ?_
      show Steps p.tables e below (T1.setTop (mkF m 22 #[.val (.ref va)] [])) _
      refine XS.iconst X1.here hx rfl (hb hby d15_22) ?_
      show Steps p.tables e below (T1.setTop (mkF m 23 #[.val (.ref va)] [(.int (0 : Int32))])) _
      exact retN X1 hx (t := .boolean) Bd.returns (by simp) (hb hby d15_23) hr
    ·
      show Q15 Z va vg vsc h0 n0 _ T1.heap _
      rw [e1]
      have hv : (0 : Int32) = (own_two va vg vsc) := by rw [own_two, if_pos hc3]
      exact ⟨(congrArg (fun z => some (Value.int z)) hv), N0, rfl⟩
  ·
    obtain ⟨T4, X4, e4, st4⟩ := getF X1 hx hZ hown (host := "") (Or.inl (hw _ (List.mem_of_getElem? (i := 51) rfl))) Via.refl e1 Fs (g := (mkF m 10 #[.val (.ref va)] [(.ref va)])) rfl rfl (hb hby d15_10)
    have pre5 : ∀ t, Steps p.tables e below (T4.setTop (mkF m 15 #[.val (.ref va)] [(.int (38 : Int32)), (.int vsc)])) t → Steps p.tables e below (s₁.setTop (entryFrame m #[(.ref va)] 1)) t := by
      intro t kt
      refine pre2 t ?_
      show Steps p.tables e below (T1.setTop (mkF m 6 #[.val (.ref va)] [(.int (38 : Int32)), (.int vg)])) _
      refine XS.icmpNo X1.here hx rfl (hb hby d15_6) rfl (flt (hc3 : ¬ ((38 : Int32) < vg))).2.2.1 ?_
      show Steps p.tables e below (T1.setTop (mkF m 9 #[.val (.ref va)] [])) _
      refine XS.aloadN X1.here hx rfl (hb hby d15_9) rfl rfl ?_
      show Steps p.tables e below (T1.setTop (mkF m 10 #[.val (.ref va)] [(.ref va)])) _
      refine st4 _ ?_
      show Steps p.tables e below (T4.setTop (mkF m 13 #[.val (.ref va)] [(.int vsc)])) _
      refine XS.bipush X4.here hx rfl (hb hby d15_13) ?_
      exact kt
    by_cases hc6 : (38 : Int32) < vsc
    ·
      obtain ⟨fs, hr, hrun, hended, hW, hsame⟩ := X4.leave (v := some (.int (0 : Int32))) (fun h => by rw [Bd.returns] at h; cases h) (hlocks := BodyLoose.notSynchronized Bd)
      refine ⟨_, _, pre5 _ ?_, hrun, hended, _, _, rfl, ?_, ⟨_, rfl⟩, hW, hsame.mono (by decide) (by decide)⟩
      ·
        show Steps p.tables e below (T4.setTop (mkF m 15 #[.val (.ref va)] [(.int (38 : Int32)), (.int vsc)])) _
        refine XS.icmpYes X4.here hx rfl (pc0 := 15) (pc' := 22) rfl (hb hby d15_15) rfl (tlt (hc6 : (38 : Int32) < vsc)).2.2.1 (by decide) (by decide) ?_
        show Steps p.tables e below (T4.setTop (mkF m 22 #[.val (.ref va)] [])) _
        refine XS.iconst X4.here hx rfl (hb hby d15_22) ?_
        show Steps p.tables e below (T4.setTop (mkF m 23 #[.val (.ref va)] [(.int (0 : Int32))])) _
        exact retN X4 hx (t := .boolean) Bd.returns (by simp) (hb hby d15_23) hr
      ·
        show Q15 Z va vg vsc h0 n0 _ T4.heap _
        rw [e4]
        have hv : (0 : Int32) = (own_two va vg vsc) := by rw [own_two, if_neg hc3, if_pos hc6]
        exact ⟨(congrArg (fun z => some (Value.int z)) hv), N0, rfl⟩
    ·
      obtain ⟨fs, hr, hrun, hended, hW, hsame⟩ := X4.leave (v := some (.int (1 : Int32))) (fun h => by rw [Bd.returns] at h; cases h) (hlocks := BodyLoose.notSynchronized Bd)
      refine ⟨_, _, pre5 _ ?_, hrun, hended, _, _, rfl, ?_, ⟨_, rfl⟩, hW, hsame.mono (by decide) (by decide)⟩
      ·
        show Steps p.tables e below (T4.setTop (mkF m 15 #[.val (.ref va)] [(.int (38 : Int32)), (.int vsc)])) _
        refine XS.icmpNo X4.here hx rfl (hb hby d15_15) rfl (flt (hc6 : ¬ ((38 : Int32) < vsc))).2.2.1 ?_
        show Steps p.tables e below (T4.setTop (mkF m 18 #[.val (.ref va)] [])) _
        refine XS.iconst X4.here hx rfl (hb hby d15_18) ?_
        show Steps p.tables e below (T4.setTop (mkF m 19 #[.val (.ref va)] [(.int (1 : Int32))])) _
        refine XS.goto X4.here hx rfl (pc0 := 19) (pc' := 23) rfl (hb hby d15_19) (by decide) (by decide) ?_
        show Steps p.tables e below (T4.setTop (mkF m 23 #[.val (.ref va)] [(.int (1 : Int32))])) _
        exact retN X4 hx (t := .boolean) Bd.returns (by simp) (hb hby d15_23) hr
      ·
        show Q15 Z va vg vsc h0 n0 _ T4.heap _
        rw [e4]
        have hv : (1 : Int32) = (own_two va vg vsc) := by rw [own_two, if_neg hc3, if_neg hc6]
        exact ⟨(congrArg (fun z => some (Value.int z)) hv), N0, rfl⟩
def own_f (pp zz az ff : Int32) (vb : Int64) (i : Nat) : Int32 := nar .char (own_ch (Int32.ofNat i) pp zz az ff vb)
def own_fill (f : Nat → Int32) (k : Nat) : List Value := (List.range 44).map (fun i => if i < k then Value.int (f i) else Value.int (0 : Int32))
def own_cs (f : Nat → Int32) : List Int32 := (List.range 44).map f
theorem own_fill_len {f : Nat → Int32} {k : Nat} : (own_fill f k).length = 44 := by simp [own_fill]
theorem own_fill0 (f : Nat → Int32) (i : Nat) : (own_fill f 0).getD i (.int (0 : Int32)) = (List.replicate 44 (Value.int (0 : Int32))).getD i (.int (0 : Int32)) := by
  have e : own_fill f 0 = List.replicate 44 (Value.int (0 : Int32)) := by
    apply List.ext_getElem
    · simp [own_fill]
    · intro i h1 h2
      simp only [own_fill, List.getElem_map, List.getElem_range, List.getElem_replicate]
      exact if_neg (Nat.not_lt_zero _)
  rw [e]
theorem own_fill_set {f : Nat → Int32} {k j : Nat} {v : Int32} (hk : k < 44) (hj : j = k + 1) (hv : v = f k) : (own_fill f k).set k (.int v) = own_fill f j := by
  subst hj hv
  apply List.ext_getElem
  · simp [own_fill]
  · intro i h1 h2
    rw [List.getElem_set]
    simp only [own_fill, List.getElem_map, List.getElem_range]
    split
    · rename_i e
      subst e
      rw [if_pos (Nat.lt_succ_self _)]
    · rename_i e
      by_cases q : i < k
      · rw [if_pos q, if_pos (by omega)]
      · rw [if_neg q, if_neg (by omega)]
theorem own_arv_eq {Z : State} {h : Heap} {a : Addr} {k : ClassId} {ty : FieldType} {n : Int32} {vs vs' : List Value} {d : Value} (e : vs = vs') (A : Arv Z h a k ty n vs d) : Arv Z h a k ty n vs' d := e ▸ A
theorem own_fill44 (f : Nat → Int32) : own_fill f 44 = (own_cs f).map Value.int := by
  simp only [own_fill, own_cs, List.map_map]
  apply List.map_congr_left
  intro i hi
  rw [if_pos (List.mem_range.mp hi)]; rfl
theorem own_cs_len {f : Nat → Int32} : (own_cs f).length = 44 := by simp [own_cs]
theorem own_cs_get (f : Nat → Int32) {i : Nat} (h : i < 44) : (own_cs f).getD i 0 = f i := by
  rw [List.getD_eq_getElem?_getD, own_cs, List.getElem?_map, List.getElem?_range h]; rfl
theorem own_and_max32 (u : Int32) : 0 ≤ (u &&& (2147483647 : Int32)).toInt := by
  have : (u &&& (2147483647 : Int32)).toInt = (u.toBitVec &&& 2147483647#32).toInt := rfl
  rw [this, BitVec.toInt_eq_toNat_of_lt]
  · omega
  · rw [BitVec.toNat_and]
    have := Nat.and_le_right (n := u.toBitVec.toNat) (m := (2147483647#32).toNat)
    have e : (2147483647#32).toNat = 2147483647 := rfl
    omega
theorem own_mod {x : Int32} (h : 0 ≤ x.toInt) (m : Int32) (k : Nat) (hk : 0 < k) (hk2 : k < 2 ^ 31) (e : m.toInt = k) : ∃ n : Nat, n < k ∧ x % m = Int32.ofNat n := by
  have e1 : (x % m).toInt = x.toInt.tmod k := by rw [Int32.toInt_mod, e]
  have b1 := Int.tmod_nonneg k h
  have b2 := Int.tmod_lt_of_pos x.toInt (show (0 : Int) < k by omega)
  refine ⟨(x % m).toInt.toNat, by omega, ?_⟩
  apply Int32.toInt_inj.mp
  rw [Int32.toInt_ofNat_small (by omega)]; omega
theorem own_e45 {z u : Int32} (h : z = (u &&& (2147483647 : Int32)) % (45 : Int32)) : ∃ n : Nat, n ≤ 44 ∧ z = Int32.ofNat n := by
  obtain ⟨n, hn, e⟩ := own_mod (own_and_max32 u) (45 : Int32) 45 (by decide) (by decide) rfl
  exact ⟨n, by omega, h.trans e⟩
theorem own_ff {z u : Int32} (h : z = (1 : Int32) + ((u &&& (2147483647 : Int32)) % (9 : Int32))) : ∃ n : Nat, 1 ≤ n ∧ n ≤ 9 ∧ z = Int32.ofNat n := by
  obtain ⟨n, hn, e⟩ := own_mod (own_and_max32 u) (9 : Int32) 9 (by decide) (by decide) rfl
  have t : ∀ n : Fin 9, (1 : Int32) + Int32.ofNat n.val = Int32.ofNat (n.val + 1) := by decide +kernel
  exact ⟨n + 1, by omega, by omega, by rw [h, e]; exact t ⟨n, hn⟩⟩
theorem own_msk (u : Int32) (m : Int32) (k : Nat) (e : m.toBitVec.toNat = k) : ∃ n : Nat, n ≤ k ∧ (u &&& m) = Int32.ofNat n := by
  refine ⟨(u &&& m).toBitVec.toNat, ?_, ?_⟩
  · rw [Int32.toBitVec_and, BitVec.toNat_and, e]; exact Nat.and_le_right
  · apply Int32.toBitVec_inj.mp
    show _ = BitVec.ofNat 32 _
    rw [BitVec.ofNat_toNat]; simp
theorem own_msk64 (u : Int64) : ∃ n : Nat, n < 16 ∧ (u &&& (15 : Int64)) = Int64.ofNat n := by
  refine ⟨(u &&& (15 : Int64)).toBitVec.toNat, ?_, ?_⟩
  · rw [Int64.toBitVec_and, BitVec.toNat_and]; exact Nat.lt_succ_of_le Nat.and_le_right
  · apply Int64.toBitVec_inj.mp
    show _ = BitVec.ofNat 64 _
    rw [BitVec.ofNat_toNat]; simp
theorem own_d10 (u : Int64) : ∃ n : Nat, n ≤ 9 ∧ ((u &&& (15 : Int64)) % (10 : Int64)).toInt32 = Int32.ofNat n := by
  obtain ⟨n, hn, e⟩ := own_msk64 u
  have t : ∀ n : Fin 16, ((Int64.ofNat n.val) % (10 : Int64)).toInt32 = Int32.ofNat (n.val % 10) := by decide +kernel
  exact ⟨n % 10, by omega, by rw [e]; exact t ⟨n, hn⟩⟩
theorem own_dc {n : Nat} (h : n ≤ 9) : nar .char (nar .char (((48 : Int32) + Int32.ofNat n).toUInt32.toUInt16.toUInt32.toInt32)) = Int32.ofNat (48 + n) := by
  have t : ∀ n : Fin 10, nar .char (nar .char (((48 : Int32) + Int32.ofNat n.val).toUInt32.toUInt16.toUInt32.toInt32)) = Int32.ofNat (48 + n.val) := by decide +kernel
  exact t ⟨n, by omega⟩
theorem own_48 : nar .char (48 : Int32) = Int32.ofNat (48 + 0) := by decide
theorem own_f_dot {pp zz az ff : Int32} {vb : Int64} {i : Nat} (h : Int32.ofNat i = pp) : own_f pp zz az ff vb i = (46 : Int32) := by
  rw [own_f, own_ch, if_pos h]; decide
theorem own_f_dig {pp zz az ff : Int32} {vb : Int64} {i fn : Nat} (h : ¬ Int32.ofNat i = pp) (hf : fn ≤ 9) (ef : ff = Int32.ofNat fn) : ∃ n : Nat, n ≤ 9 ∧ own_f pp zz az ff vb i = Int32.ofNat (48 + n) := by
  subst ef
  rw [own_f, own_ch, if_neg h]
  split
  · split
    · split
      · exact ⟨0, by omega, own_48⟩
      · split
        · exact ⟨fn, hf, own_dc hf⟩
        · obtain ⟨n, hn, e⟩ := own_d10 ((vb.toUInt64 >>> ((Int32.ofNat i - (1 : Int32)) &&& 0x3f).toInt64.toUInt64).toInt64)
          exact ⟨n, hn, by rw [e]; exact own_dc hn⟩
    · exact ⟨0, by omega, own_48⟩
  · split
    · split
      · exact ⟨0, by omega, own_48⟩
      · split
        · exact ⟨fn, hf, own_dc hf⟩
        · obtain ⟨n, hn, e⟩ := own_d10 ((vb.toUInt64 >>> ((Int32.ofNat i) &&& 0x3f).toInt64.toUInt64).toInt64)
          exact ⟨n, hn, by rw [e]; exact own_dc hn⟩
    · exact ⟨0, by omega, own_48⟩
theorem own_eq32 {i j : Nat} (hi : i < 2 ^ 31) (hj : j < 2 ^ 31) : (Int32.ofNat i) = (Int32.ofNat j) ↔ i = j := by
  rw [← Int32.toInt_inj, Int32.toInt_ofNat_small hi, Int32.toInt_ofNat_small hj]; omega
theorem own_sub1 {i : Nat} (h : 0 < i) (hi : i < 2 ^ 31) : Int32.ofNat i - (1 : Int32) = Int32.ofNat (i - 1) := by
  apply Int32.toInt_inj.mp
  rw [Int32.toInt_sub, Int32.toInt_ofNat_small hi, Int32.toInt_ofNat_small (by omega)]
  show ((i : Int) - 1).bmod _ = _
  rw [Int.bmod_eq_of_le_mul_two] <;> omega
/-- the digit's own place: the point isn't counted -/
def own_j (p i : Nat) : Nat := if p < i then i - 1 else i
theorem own_f_zero {az ff : Int32} {vb : Int64} {i p z : Nat} (hi : i < 64) (hp : p < 64) (hz : z < 4) (h : ¬ i = p) (hj : ¬ az = 0 ∨ own_j p i < z) : own_f (Int32.ofNat p) (Int32.ofNat z) az ff vb i = (48 : Int32) := by
  rw [own_f, own_ch, if_neg (fun q => h ((own_eq32 (by omega) (by omega)).mp q))]
  have e48 : nar .char (48 : Int32) = 48 := by decide
  by_cases q : p < i
  · rw [if_pos ((own_lt32 (by omega) (by omega)).mpr q)]
    by_cases qa : az = 0
    · have hj' := hj.resolve_left (fun x => x qa)
      rw [own_j, if_pos q] at hj'
      rw [if_pos qa, own_sub1 (by omega) (by omega), if_pos ((own_lt32 (by omega) (by omega)).mpr hj'), e48]
    · rw [if_neg qa, e48]
  · rw [if_neg (fun x => q ((own_lt32 (by omega) (by omega)).mp x))]
    by_cases qa : az = 0
    · have hj' := hj.resolve_left (fun x => x qa)
      rw [own_j, if_neg q] at hj'
      rw [if_pos qa, if_pos ((own_lt32 (by omega) (by omega)).mpr hj'), e48]
    · rw [if_neg qa, e48]
theorem own_f_first {az : Int32} {vb : Int64} {i p z fn : Nat} (hi : i < 64) (hp : p < 64) (hz : z < 4) (h : ¬ i = p) (ha : az = 0) (hj : own_j p i = z) (hf1 : 1 ≤ fn) (hf : fn ≤ 9) : ¬ own_f (Int32.ofNat p) (Int32.ofNat z) az (Int32.ofNat fn) vb i = (48 : Int32) := by
  have e : own_f (Int32.ofNat p) (Int32.ofNat z) az (Int32.ofNat fn) vb i = Int32.ofNat (48 + fn) := by
    rw [own_f, own_ch, if_neg (fun q => h ((own_eq32 (by omega) (by omega)).mp q))]
    by_cases q : p < i
    · rw [own_j, if_pos q] at hj
      rw [if_pos ((own_lt32 (by omega) (by omega)).mpr q), if_pos ha, own_sub1 (by omega) (by omega), if_neg (fun x => absurd ((own_lt32 (by omega) (by omega)).mp x) (by omega)), if_pos ((own_eq32 (by omega) (by omega)).mpr hj)]
      exact own_dc hf
    · rw [own_j, if_neg q] at hj
      rw [if_neg (fun x => q ((own_lt32 (by omega) (by omega)).mp x)), if_pos ha, if_neg (fun x => absurd ((own_lt32 (by omega) (by omega)).mp x) (by omega)), if_pos ((own_eq32 (by omega) (by omega)).mpr hj)]
      exact own_dc hf
  rw [e]
  intro q
  have := (own_eq32 (i := 48 + fn) (j := 48) (by omega) (by omega)).mp q
  omega
def own_D (az : Int32) (p z i : Nat) : Nat := if az = 0 then own_j p i - z else 0
theorem own_D_dot {az : Int32} {p z : Nat} : own_D az p z (p + 1) = own_D az p z p := by
  unfold own_D own_j
  rw [if_pos (Nat.lt_succ_self p), if_neg (Nat.lt_irrefl p)]; rfl
theorem own_j_next {p i : Nat} (h : ¬ i = p) : own_j p (i + 1) = own_j p i + 1 := by
  unfold own_j
  by_cases q : p < i
  · rw [if_pos (by omega), if_pos q]; omega
  · rw [if_neg (by omega), if_neg q]
theorem own_j_mono {p i k : Nat} : own_j p i ≤ own_j p (i + k) := by
  unfold own_j
  split <;> split <;> omega
theorem own_rd {az : Int32} {vb : Int64} {p z fn : Nat} (hp : p < 64) (hz : z < 4) (hf1 : 1 ≤ fn) (hf : fn ≤ 9) : ∀ (k i s : Nat), i + k ≤ 44 → s ≤ 38 → s = own_D az p z i →
    own_rdk (own_cs (own_f (Int32.ofNat p) (Int32.ofNat z) az (Int32.ofNat fn) vb)) k i s = if own_D az p z (i + k) ≤ 38 then own_D az p z (i + k) else 39
  | 0, i, s, _, hs, e => by rw [own_rdk, Nat.add_zero, ← e, if_pos hs]
  | k + 1, i, s, hk, hs, e => by
    rw [own_rdk, own_cs_get _ (by omega : i < 44)]
    have en : i + (k + 1) = (i + 1) + k := by omega
    rw [en]
    by_cases q : i = p
    · subst q
      rw [own_f_dot rfl, if_pos rfl]
      exact own_rd hp hz hf1 hf k (i + 1) s (by omega) hs (by rw [own_D_dot]; exact e)
    · obtain ⟨n, hn, en⟩ := own_f_dig (zz := Int32.ofNat z) (az := az) (vb := vb) (i := i) (fn := fn) (pp := Int32.ofNat p) (fun x => q ((own_eq32 (by omega) (by omega)).mp x)) hf rfl
      have h46 : ¬ own_f (Int32.ofNat p) (Int32.ofNat z) az (Int32.ofNat fn) vb i = (46 : Int32) := by
        rw [en]; intro x
        have := (own_eq32 (i := 48 + n) (j := 46) (by omega) (by omega)).mp x
        omega
      rw [if_neg h46]
      by_cases qa : az = 0
      · have eD : own_D az p z i = own_j p i - z := by rw [own_D, if_pos qa]
        have eD1 : own_D az p z (i + 1) = own_j p i + 1 - z := by rw [own_D, if_pos qa, own_j_next q]
        by_cases qj : own_j p i < z
        · rw [if_pos ⟨by omega, own_f_zero (by omega) hp hz q (Or.inr qj)⟩]
          exact own_rd hp hz hf1 hf k (i + 1) s (by omega) hs (by omega)
        · have hno : ¬ (s = 0 ∧ own_f (Int32.ofNat p) (Int32.ofNat z) az (Int32.ofNat fn) vb i = (48 : Int32)) := by
            intro x
            have : own_j p i = z := by omega
            exact own_f_first (by omega) hp hz q qa this hf1 hf x.2
          rw [if_neg hno]
          by_cases q38 : 38 < s + 1
          · rw [if_pos q38]
            have hm := own_j_mono (p := p) (i := i + 1) (k := k)
            rw [own_j_next q] at hm
            have eDk : own_D az p z (i + 1 + k) = own_j p (i + 1 + k) - z := by rw [own_D, if_pos qa]
            rw [if_neg (by omega)]; omega
          · rw [if_neg q38]
            exact own_rd hp hz hf1 hf k (i + 1) (s + 1) (by omega) (by omega) (by omega)
      · have eD : own_D az p z i = 0 := by rw [own_D, if_neg qa]
        have eD1 : own_D az p z (i + 1) = 0 := by rw [own_D, if_neg qa]
        rw [if_pos ⟨by omega, own_f_zero (by omega) hp hz q (Or.inl qa)⟩]
        exact own_rd hp hz hf1 hf k (i + 1) s (by omega) hs (by omega)
theorem own_cs255 {pp zz az ff u : Int32} {vb : Int64} (h : ff = (1 : Int32) + ((u &&& (2147483647 : Int32)) % (9 : Int32))) : ∀ c ∈ own_cs (own_f pp zz az ff vb), ¬ c < 0 ∧ ¬ (255 : Int32) < c := by
  intro c hc
  obtain ⟨fn, hf1, hf, ef⟩ := own_ff h
  simp only [own_cs, List.mem_map, List.mem_range] at hc
  obtain ⟨i, hi, rfl⟩ := hc
  by_cases q : Int32.ofNat i = pp
  · rw [own_f_dot q]; decide
  · obtain ⟨n, hn, e⟩ := own_f_dig (zz := zz) (az := az) (vb := vb) q hf ef
    rw [e]
    have t : ∀ n : Fin 10, ¬ Int32.ofNat (48 + n.val) < 0 ∧ ¬ (255 : Int32) < Int32.ofNat (48 + n.val) := by decide +kernel
    exact t ⟨n, by omega⟩
theorem own_fin {b : Addr} {zz az pp ff vsc lz lp lf : Int32} {vb : Int64} {ne : Nat} (hzz : zz = lz &&& (3 : Int32)) (hpp : pp = lp &&& (63 : Int32)) (hff : ff = (1 : Int32) + ((lf &&& (2147483647 : Int32)) % (9 : Int32))) (hne : ne ≤ 44) :
    (own_two b (Int32.ofNat (own_rdk (own_cs (own_f pp zz az ff vb)) ne 0 0)) vsc) = (if (38 : Int32) < (if az = (0 : Int32) then (own_max (0 : Int32) ((if pp < (Int32.ofNat ne) then ((Int32.ofNat ne) - (1 : Int32)) else (Int32.ofNat ne)) - zz)) else (0 : Int32)) then (0 : Int32) else (if (38 : Int32) < vsc then (0 : Int32) else (1 : Int32))) := by
  obtain ⟨fn, hf1, hf, ef⟩ := own_ff hff
  obtain ⟨z, hz, ez⟩ := own_msk lz (3 : Int32) 3 rfl
  obtain ⟨p, hp, ep⟩ := own_msk lp (63 : Int32) 63 rfl
  rw [ez] at hzz
  rw [ep] at hpp
  subst hzz hpp ef
  have e0 : own_D az p z 0 = 0 := by
    unfold own_D own_j; split
    · rw [if_neg (by omega)]; omega
    · rfl
  rw [own_rd (by omega) (by omega) hf1 hf ne 0 0 (by omega) (by omega) e0.symm, Nat.zero_add]
  have hD : own_D az p z ne ≤ 44 := by
    unfold own_D own_j; split
    · split <;> omega
    · omega
  have es : (if az = (0 : Int32) then (own_max (0 : Int32) ((if (Int32.ofNat p) < (Int32.ofNat ne) then ((Int32.ofNat ne) - (1 : Int32)) else (Int32.ofNat ne)) - (Int32.ofNat z))) else (0 : Int32)) = Int32.ofNat (own_D az p z ne) := by
    unfold own_D
    by_cases qa : az = 0
    · rw [if_pos qa, if_pos qa]
      have ej : (if (Int32.ofNat p) < (Int32.ofNat ne) then ((Int32.ofNat ne) - (1 : Int32)) else (Int32.ofNat ne)) = Int32.ofNat (own_j p ne) := by
        unfold own_j
        by_cases q : p < ne
        · rw [if_pos ((own_lt32 (by omega) (by omega)).mpr q), if_pos q, own_sub1 (by omega) (by omega)]
        · rw [if_neg (fun x => q ((own_lt32 (by omega) (by omega)).mp x)), if_neg q]
      rw [ej]
      have hj : own_j p ne ≤ 44 := by unfold own_j; split <;> omega
      have t : ∀ (a : Fin 45) (b : Fin 4), own_max (0 : Int32) (Int32.ofNat a.val - Int32.ofNat b.val) = Int32.ofNat (a.val - b.val) := by decide +kernel
      exact t ⟨own_j p ne, by omega⟩ ⟨z, by omega⟩
    · rw [if_neg qa, if_neg qa]; rfl
  rw [es, own_two]
  have r : ((38 : Int32) < Int32.ofNat (if own_D az p z ne ≤ 38 then own_D az p z ne else 39)) ↔ ((38 : Int32) < Int32.ofNat (own_D az p z ne)) := by
    have l1 : ((38 : Int32) < Int32.ofNat (own_D az p z ne)) ↔ 38 < own_D az p z ne := own_lt32 (i := 38) (by decide) (by omega)
    by_cases q : own_D az p z ne ≤ 38
    · rw [if_pos q]
    · rw [if_neg q, l1]
      constructor
      · intro _; omega
      · intro _; decide
  by_cases q : (38 : Int32) < Int32.ofNat (own_D az p z ne)
  · rw [if_pos (r.mpr q), if_pos q]
  · rw [if_neg (fun x => q (r.mp x)), if_neg q]
theorem pd_4 : parseMethodDescriptor "(IIIZIJ)C" = some ⟨[.int, .int, .int, .boolean, .int, .long], some .char⟩ := by decide +kernel
theorem pd_5 : parseMethodDescriptor "([C)V" = some ⟨[(.array .char)], none⟩ := by decide +kernel
theorem pd_6 : parseMethodDescriptor "()V" = some ⟨[], none⟩ := by decide +kernel
theorem pd_7 : parseMethodDescriptor "(Ljava/lang/String;II)V" = some ⟨[(.object "java/lang/String"), .int, .int], none⟩ := by decide +kernel
theorem pd_8 : parseMethodDescriptor "()Z" = some ⟨[], some .boolean⟩ := by decide +kernel
theorem pd_9 : parseMethodDescriptor "(II)I" = some ⟨[.int, .int], some .int⟩ := by decide +kernel
theorem ef_rm0 (m : MethodId) (x0 : Int32) (x1 : Int32) (x2 : Int32) (x3 : Int64) : entryFrame m #[(.int x0), (.int x1), (.int x2), (.long x3)] maxLocals = mkF m 0 #[.val (.int x0), .val (.int x1), .val (.int x2), .val (.long x3), .second, .unset, .unset, .unset, .unset, .unset, .unset, .unset, .unset, .unset, .unset, .unset, .unset] [] := by first | (simp [entryFrame, mkF, argsToLocals, Value.category, maxLocals]; done) | rfl
def Q0 (Z : State) (vlay : Int32) (vend : Int32) (vsc : Int32) (vbits : Int64) (vz : Int32) (fm : Value) (h0 : Heap) (n0 : Nat) (v : Option Value) (h : Heap) (L : List Loc) : Prop := v = some (.int (1 : Int32)) ∧ Fr n0 L
set_option maxRecDepth 65536 in
set_option maxHeartbeats 40000000 in
theorem rm0 (l : Launch) (Z : State) (a0 : Array Value) (hw : ∀ d ∈ tables_1, d.before a0 Z = true) (ws : List Jvm.Cond) (vlay : Int32) (vend : Int32) (vsc : Int32) (vbits : Int64) (vz : Int32) (fm : Value) (h0 : Heap) (n0 : Nat) (Z0 : n0 ≤ h0.size) (S_cs : Sta Z h0 "java/lang/String" "COMPACT_STRINGS" "Z" (.int vz)) (S_fm : Sta Z h0 "jdk/internal/util/Preconditions" "SIOOBE_FORMATTER" "Ljava/util/function/BiFunction;" fm) (hcs : ¬ vz = 0) (rfm : fm.isRef = true) :
    MetFree l x (head1 (Jvm.Cond.code x code maxLocals ret :: ws) room_1) (fun a U => a = #[(.int vlay), (.int vend), (.int vsc), (.long vbits)] ∧ Z.Warmed39 U.vm ∧ U.heap = h0) (fun _ _ _ _ _ => True) (fun _ U o U' => ∃ v L, o = .returned v ∧ Q0 Z vlay vend vsc vbits vz fm h0 n0 v U'.heap L ∧ FrameEnd U o U' L room_1.cells room_1.slots) := by
  refine MetFree.of_bodySF (plainFor_of_name pn_41) hisR ?_
  intro p e s m args below meth c s₁ Bd hml0 hP hK
  obtain ⟨rfl, hZ, hh⟩ := hP
  have hx := Bd.exec
  have hby := Bd.bytes
  have hml : c.maxLocals = 17 := hml0
  have hown : s.vm.findClass "com/example/paniere/paniere/DigitsInTwoLongsPinLaw" = some m.cls := findClass_of_methodNamed Bd.named
  have hnm := (name_of_methodNamed Bd.named Bd.method).1
  have X0 : Stand p l e room_1 s m #[(.int vlay), (.int vend), (.int vsc), (.long vbits)] below meth c s₁ [] 0 0 := Stand.of_body Bd
  have e0 : s₁.heap = h0 := by rw [← hh, Bd.state]; rfl
  have N0 := Fr.nil n0
  have pre0 : ∀ t, Steps p.tables e below (s₁.setTop (mkF m 0 #[.val (.int vlay), .val (.int vend), .val (.int vsc), .val (.long vbits), .second, .unset, .unset, .unset, .unset, .unset, .unset, .unset, .unset, .unset, .unset, .unset, .unset] [])) t → Steps p.tables e below (s₁.setTop (entryFrame m #[(.int vlay), (.int vend), (.int vsc), (.long vbits)] maxLocals)) t := fun t k => castTop (ef_rm0 m vlay vend vsc vbits) k
  have pre1 : ∀ t, Steps p.tables e below (s₁.setTop (mkF m 10 #[.val (.int vlay), .val (.int vend), .val (.int vsc), .val (.long vbits), .second, .val (.int (vlay &&& (3 : Int32))), .unset, .unset, .unset, .unset, .unset, .unset, .unset, .unset, .unset, .unset, .unset] [(.int (((vlay.toUInt32 >>> ((2 : Int32) &&& 31).toUInt32).toInt32) &&& (3 : Int32)))])) t → Steps p.tables e below (s₁.setTop (entryFrame m #[(.int vlay), (.int vend), (.int vsc), (.long vbits)] maxLocals)) t := by
    intro t kt
    refine pre0 t ?_
    show Steps p.tables e below (s₁.setTop (mkF m 0 #[.val (.int vlay), .val (.int vend), .val (.int vsc), .val (.long vbits), .second, .unset, .unset, .unset, .unset, .unset, .unset, .unset, .unset, .unset, .unset, .unset, .unset] [])) _
    refine XS.iloadN X0.here hx rfl (hb hby at_0) rfl ?_
    show Steps p.tables e below (s₁.setTop (mkF m 1 #[.val (.int vlay), .val (.int vend), .val (.int vsc), .val (.long vbits), .second, .unset, .unset, .unset, .unset, .unset, .unset, .unset, .unset, .unset, .unset, .unset, .unset] [(.int vlay)])) _
    refine XS.iconst X0.here hx rfl (hb hby at_1) ?_
    show Steps p.tables e below (s₁.setTop (mkF m 2 #[.val (.int vlay), .val (.int vend), .val (.int vsc), .val (.long vbits), .second, .unset, .unset, .unset, .unset, .unset, .unset, .unset, .unset, .unset, .unset, .unset, .unset] [(.int (3 : Int32)), (.int vlay)])) _
    refine XS.iand X0.here hx rfl (hb hby at_2) rfl ?_
    show Steps p.tables e below (s₁.setTop (mkF m 3 #[.val (.int vlay), .val (.int vend), .val (.int vsc), .val (.long vbits), .second, .unset, .unset, .unset, .unset, .unset, .unset, .unset, .unset, .unset, .unset, .unset, .unset] [(.int (vlay &&& (3 : Int32)))])) _
    refine XS.istore X0.here hx rfl (hb hby at_3) rfl (l' := #[.val (.int vlay), .val (.int vend), .val (.int vsc), .val (.long vbits), .second, .val (.int (vlay &&& (3 : Int32))), .unset, .unset, .unset, .unset, .unset, .unset, .unset, .unset, .unset, .unset, .unset]) rfl ?_
    show Steps p.tables e below (s₁.setTop (mkF m 5 #[.val (.int vlay), .val (.int vend), .val (.int vsc), .val (.long vbits), .second, .val (.int (vlay &&& (3 : Int32))), .unset, .unset, .unset, .unset, .unset, .unset, .unset, .unset, .unset, .unset, .unset] [])) _
    refine XS.iloadN X0.here hx rfl (hb hby at_5) rfl ?_
    show Steps p.tables e below (s₁.setTop (mkF m 6 #[.val (.int vlay), .val (.int vend), .val (.int vsc), .val (.long vbits), .second, .val (.int (vlay &&& (3 : Int32))), .unset, .unset, .unset, .unset, .unset, .unset, .unset, .unset, .unset, .unset, .unset] [(.int vlay)])) _
    refine XS.iconst X0.here hx rfl (hb hby at_6) ?_
    show Steps p.tables e below (s₁.setTop (mkF m 7 #[.val (.int vlay), .val (.int vend), .val (.int vsc), .val (.long vbits), .second, .val (.int (vlay &&& (3 : Int32))), .unset, .unset, .unset, .unset, .unset, .unset, .unset, .unset, .unset, .unset, .unset] [(.int (2 : Int32)), (.int vlay)])) _
    refine XS.iushr X0.here hx rfl (hb hby at_7) rfl ?_
    show Steps p.tables e below (s₁.setTop (mkF m 8 #[.val (.int vlay), .val (.int vend), .val (.int vsc), .val (.long vbits), .second, .val (.int (vlay &&& (3 : Int32))), .unset, .unset, .unset, .unset, .unset, .unset, .unset, .unset, .unset, .unset, .unset] [(.int ((vlay.toUInt32 >>> ((2 : Int32) &&& 31).toUInt32).toInt32))])) _
    refine XS.iconst X0.here hx rfl (hb hby at_8) ?_
    show Steps p.tables e below (s₁.setTop (mkF m 9 #[.val (.int vlay), .val (.int vend), .val (.int vsc), .val (.long vbits), .second, .val (.int (vlay &&& (3 : Int32))), .unset, .unset, .unset, .unset, .unset, .unset, .unset, .unset, .unset, .unset, .unset] [(.int (3 : Int32)), (.int ((vlay.toUInt32 >>> ((2 : Int32) &&& 31).toUInt32).toInt32))])) _
    refine XS.iand X0.here hx rfl (hb hby at_9) rfl ?_
    exact kt
  obtain ⟨T2, L2, X2, e2, N2, pre2⟩ : ∃ (Tm : State) (Lm : List Loc), Stand p l e room_1 s m #[(.int vlay), (.int vend), (.int vsc), (.long vbits)] below meth c Tm Lm 0 0 ∧ Tm.heap = h0 ∧ Fr n0 Lm ∧ ∀ t, Steps p.tables e below (Tm.setTop (mkF m 18 #[.val (.int vlay), .val (.int vend), .val (.int vsc), .val (.long vbits), .second, .val (.int (vlay &&& (3 : Int32))), .unset, .unset, .unset, .unset, .unset, .unset, .unset, .unset, .unset, .unset, .unset] [(.int (if (((vlay.toUInt32 >>> ((2 : Int32) &&& 31).toUInt32).toInt32) &&& (3 : Int32)) = (0 : Int32) then (1 : Int32) else (0 : Int32)))])) t → Steps p.tables e below (s₁.setTop (entryFrame m #[(.int vlay), (.int vend), (.int vsc), (.long vbits)] maxLocals)) t := by
    by_cases hc3 : (((vlay.toUInt32 >>> ((2 : Int32) &&& 31).toUInt32).toInt32) &&& (3 : Int32)) = (0 : Int32)
    ·
      have pre4 : ∀ t, Steps p.tables e below (s₁.setTop (mkF m 18 #[.val (.int vlay), .val (.int vend), .val (.int vsc), .val (.long vbits), .second, .val (.int (vlay &&& (3 : Int32))), .unset, .unset, .unset, .unset, .unset, .unset, .unset, .unset, .unset, .unset, .unset] [(.int (1 : Int32))])) t → Steps p.tables e below (s₁.setTop (entryFrame m #[(.int vlay), (.int vend), (.int vsc), (.long vbits)] maxLocals)) t := by
        intro t kt
        refine pre1 t ?_
        show Steps p.tables e below (s₁.setTop (mkF m 10 #[.val (.int vlay), .val (.int vend), .val (.int vsc), .val (.long vbits), .second, .val (.int (vlay &&& (3 : Int32))), .unset, .unset, .unset, .unset, .unset, .unset, .unset, .unset, .unset, .unset, .unset] [(.int (((vlay.toUInt32 >>> ((2 : Int32) &&& 31).toUInt32).toInt32) &&& (3 : Int32)))])) _
        refine XS.ifNo X0.here hx rfl (hb hby at_10) rfl ((if0 _ _).trans (teq (hc3 : (((vlay.toUInt32 >>> ((2 : Int32) &&& 31).toUInt32).toInt32) &&& (3 : Int32)) = (0 : Int32))).2) ?_
        show Steps p.tables e below (s₁.setTop (mkF m 13 #[.val (.int vlay), .val (.int vend), .val (.int vsc), .val (.long vbits), .second, .val (.int (vlay &&& (3 : Int32))), .unset, .unset, .unset, .unset, .unset, .unset, .unset, .unset, .unset, .unset, .unset] [])) _
        refine XS.iconst X0.here hx rfl (hb hby at_13) ?_
        show Steps p.tables e below (s₁.setTop (mkF m 14 #[.val (.int vlay), .val (.int vend), .val (.int vsc), .val (.long vbits), .second, .val (.int (vlay &&& (3 : Int32))), .unset, .unset, .unset, .unset, .unset, .unset, .unset, .unset, .unset, .unset, .unset] [(.int (1 : Int32))])) _
        refine XS.goto X0.here hx rfl (pc0 := 14) (pc' := 18) rfl (hb hby at_14) (by decide) (by decide) ?_
        exact kt
      exact ⟨s₁, _, X0, e0, N0, fun t kt => by
        simp only [if_pos hc3] at kt
        exact pre4 t kt⟩
    ·
      have pre5 : ∀ t, Steps p.tables e below (s₁.setTop (mkF m 18 #[.val (.int vlay), .val (.int vend), .val (.int vsc), .val (.long vbits), .second, .val (.int (vlay &&& (3 : Int32))), .unset, .unset, .unset, .unset, .unset, .unset, .unset, .unset, .unset, .unset, .unset] [(.int (0 : Int32))])) t → Steps p.tables e below (s₁.setTop (entryFrame m #[(.int vlay), (.int vend), (.int vsc), (.long vbits)] maxLocals)) t := by
        intro t kt
        refine pre1 t ?_
        show Steps p.tables e below (s₁.setTop (mkF m 10 #[.val (.int vlay), .val (.int vend), .val (.int vsc), .val (.long vbits), .second, .val (.int (vlay &&& (3 : Int32))), .unset, .unset, .unset, .unset, .unset, .unset, .unset, .unset, .unset, .unset, .unset] [(.int (((vlay.toUInt32 >>> ((2 : Int32) &&& 31).toUInt32).toInt32) &&& (3 : Int32)))])) _
        refine XS.ifYes X0.here hx rfl (pc0 := 10) (pc' := 17) rfl (hb hby at_10) rfl ((if0 _ _).trans (feq (hc3 : ¬ ((((vlay.toUInt32 >>> ((2 : Int32) &&& 31).toUInt32).toInt32) &&& (3 : Int32)) = (0 : Int32)))).2) (by decide) (by decide) ?_
        show Steps p.tables e below (s₁.setTop (mkF m 17 #[.val (.int vlay), .val (.int vend), .val (.int vsc), .val (.long vbits), .second, .val (.int (vlay &&& (3 : Int32))), .unset, .unset, .unset, .unset, .unset, .unset, .unset, .unset, .unset, .unset, .unset] [])) _
        refine XS.iconst X0.here hx rfl (hb hby at_17) ?_
        exact kt
      exact ⟨s₁, _, X0, e0, N0, fun t kt => by
        simp only [if_neg hc3] at kt
        exact pre5 t kt⟩
  have pre6 : ∀ t, Steps p.tables e below (T2.setTop (mkF m 51 #[.val (.int vlay), .val (.int vend), .val (.int vsc), .val (.long vbits), .second, .val (.int (vlay &&& (3 : Int32))), .val (.int (if (((vlay.toUInt32 >>> ((2 : Int32) &&& 31).toUInt32).toInt32) &&& (3 : Int32)) = (0 : Int32) then (1 : Int32) else (0 : Int32))), .val (.int (((vlay.toUInt32 >>> ((4 : Int32) &&& 31).toUInt32).toInt32) &&& (63 : Int32))), .val (.int ((1 : Int32) + ((((vlay.toUInt32 >>> ((10 : Int32) &&& 31).toUInt32).toInt32) &&& (2147483647 : Int32)) % (9 : Int32)))), .val (.int ((vend &&& (2147483647 : Int32)) % (45 : Int32))), .unset, .unset, .unset, .unset, .unset, .unset, .unset] [])) t → Steps p.tables e below (s₁.setTop (entryFrame m #[(.int vlay), (.int vend), (.int vsc), (.long vbits)] maxLocals)) t := by
    intro t kt
    refine pre2 t ?_
    show Steps p.tables e below (T2.setTop (mkF m 18 #[.val (.int vlay), .val (.int vend), .val (.int vsc), .val (.long vbits), .second, .val (.int (vlay &&& (3 : Int32))), .unset, .unset, .unset, .unset, .unset, .unset, .unset, .unset, .unset, .unset, .unset] [(.int (if (((vlay.toUInt32 >>> ((2 : Int32) &&& 31).toUInt32).toInt32) &&& (3 : Int32)) = (0 : Int32) then (1 : Int32) else (0 : Int32)))])) _
    refine XS.istore X2.here hx rfl (hb hby at_18) rfl (l' := #[.val (.int vlay), .val (.int vend), .val (.int vsc), .val (.long vbits), .second, .val (.int (vlay &&& (3 : Int32))), .val (.int (if (((vlay.toUInt32 >>> ((2 : Int32) &&& 31).toUInt32).toInt32) &&& (3 : Int32)) = (0 : Int32) then (1 : Int32) else (0 : Int32))), .unset, .unset, .unset, .unset, .unset, .unset, .unset, .unset, .unset, .unset]) rfl ?_
    show Steps p.tables e below (T2.setTop (mkF m 20 #[.val (.int vlay), .val (.int vend), .val (.int vsc), .val (.long vbits), .second, .val (.int (vlay &&& (3 : Int32))), .val (.int (if (((vlay.toUInt32 >>> ((2 : Int32) &&& 31).toUInt32).toInt32) &&& (3 : Int32)) = (0 : Int32) then (1 : Int32) else (0 : Int32))), .unset, .unset, .unset, .unset, .unset, .unset, .unset, .unset, .unset, .unset] [])) _
    refine XS.iloadN X2.here hx rfl (hb hby at_20) rfl ?_
    show Steps p.tables e below (T2.setTop (mkF m 21 #[.val (.int vlay), .val (.int vend), .val (.int vsc), .val (.long vbits), .second, .val (.int (vlay &&& (3 : Int32))), .val (.int (if (((vlay.toUInt32 >>> ((2 : Int32) &&& 31).toUInt32).toInt32) &&& (3 : Int32)) = (0 : Int32) then (1 : Int32) else (0 : Int32))), .unset, .unset, .unset, .unset, .unset, .unset, .unset, .unset, .unset, .unset] [(.int vlay)])) _
    refine XS.iconst X2.here hx rfl (hb hby at_21) ?_
    show Steps p.tables e below (T2.setTop (mkF m 22 #[.val (.int vlay), .val (.int vend), .val (.int vsc), .val (.long vbits), .second, .val (.int (vlay &&& (3 : Int32))), .val (.int (if (((vlay.toUInt32 >>> ((2 : Int32) &&& 31).toUInt32).toInt32) &&& (3 : Int32)) = (0 : Int32) then (1 : Int32) else (0 : Int32))), .unset, .unset, .unset, .unset, .unset, .unset, .unset, .unset, .unset, .unset] [(.int (4 : Int32)), (.int vlay)])) _
    refine XS.iushr X2.here hx rfl (hb hby at_22) rfl ?_
    show Steps p.tables e below (T2.setTop (mkF m 23 #[.val (.int vlay), .val (.int vend), .val (.int vsc), .val (.long vbits), .second, .val (.int (vlay &&& (3 : Int32))), .val (.int (if (((vlay.toUInt32 >>> ((2 : Int32) &&& 31).toUInt32).toInt32) &&& (3 : Int32)) = (0 : Int32) then (1 : Int32) else (0 : Int32))), .unset, .unset, .unset, .unset, .unset, .unset, .unset, .unset, .unset, .unset] [(.int ((vlay.toUInt32 >>> ((4 : Int32) &&& 31).toUInt32).toInt32))])) _
    refine XS.bipush X2.here hx rfl (hb hby at_23) ?_
    show Steps p.tables e below (T2.setTop (mkF m 25 #[.val (.int vlay), .val (.int vend), .val (.int vsc), .val (.long vbits), .second, .val (.int (vlay &&& (3 : Int32))), .val (.int (if (((vlay.toUInt32 >>> ((2 : Int32) &&& 31).toUInt32).toInt32) &&& (3 : Int32)) = (0 : Int32) then (1 : Int32) else (0 : Int32))), .unset, .unset, .unset, .unset, .unset, .unset, .unset, .unset, .unset, .unset] [(.int (63 : Int32)), (.int ((vlay.toUInt32 >>> ((4 : Int32) &&& 31).toUInt32).toInt32))])) _
    refine XS.iand X2.here hx rfl (hb hby at_25) rfl ?_
    show Steps p.tables e below (T2.setTop (mkF m 26 #[.val (.int vlay), .val (.int vend), .val (.int vsc), .val (.long vbits), .second, .val (.int (vlay &&& (3 : Int32))), .val (.int (if (((vlay.toUInt32 >>> ((2 : Int32) &&& 31).toUInt32).toInt32) &&& (3 : Int32)) = (0 : Int32) then (1 : Int32) else (0 : Int32))), .unset, .unset, .unset, .unset, .unset, .unset, .unset, .unset, .unset, .unset] [(.int (((vlay.toUInt32 >>> ((4 : Int32) &&& 31).toUInt32).toInt32) &&& (63 : Int32)))])) _
    refine XS.istore X2.here hx rfl (hb hby at_26) rfl (l' := #[.val (.int vlay), .val (.int vend), .val (.int vsc), .val (.long vbits), .second, .val (.int (vlay &&& (3 : Int32))), .val (.int (if (((vlay.toUInt32 >>> ((2 : Int32) &&& 31).toUInt32).toInt32) &&& (3 : Int32)) = (0 : Int32) then (1 : Int32) else (0 : Int32))), .val (.int (((vlay.toUInt32 >>> ((4 : Int32) &&& 31).toUInt32).toInt32) &&& (63 : Int32))), .unset, .unset, .unset, .unset, .unset, .unset, .unset, .unset, .unset]) rfl ?_
    show Steps p.tables e below (T2.setTop (mkF m 28 #[.val (.int vlay), .val (.int vend), .val (.int vsc), .val (.long vbits), .second, .val (.int (vlay &&& (3 : Int32))), .val (.int (if (((vlay.toUInt32 >>> ((2 : Int32) &&& 31).toUInt32).toInt32) &&& (3 : Int32)) = (0 : Int32) then (1 : Int32) else (0 : Int32))), .val (.int (((vlay.toUInt32 >>> ((4 : Int32) &&& 31).toUInt32).toInt32) &&& (63 : Int32))), .unset, .unset, .unset, .unset, .unset, .unset, .unset, .unset, .unset] [])) _
    refine XS.iconst X2.here hx rfl (hb hby at_28) ?_
    show Steps p.tables e below (T2.setTop (mkF m 29 #[.val (.int vlay), .val (.int vend), .val (.int vsc), .val (.long vbits), .second, .val (.int (vlay &&& (3 : Int32))), .val (.int (if (((vlay.toUInt32 >>> ((2 : Int32) &&& 31).toUInt32).toInt32) &&& (3 : Int32)) = (0 : Int32) then (1 : Int32) else (0 : Int32))), .val (.int (((vlay.toUInt32 >>> ((4 : Int32) &&& 31).toUInt32).toInt32) &&& (63 : Int32))), .unset, .unset, .unset, .unset, .unset, .unset, .unset, .unset, .unset] [(.int (1 : Int32))])) _
    refine XS.iloadN X2.here hx rfl (hb hby at_29) rfl ?_
    show Steps p.tables e below (T2.setTop (mkF m 30 #[.val (.int vlay), .val (.int vend), .val (.int vsc), .val (.long vbits), .second, .val (.int (vlay &&& (3 : Int32))), .val (.int (if (((vlay.toUInt32 >>> ((2 : Int32) &&& 31).toUInt32).toInt32) &&& (3 : Int32)) = (0 : Int32) then (1 : Int32) else (0 : Int32))), .val (.int (((vlay.toUInt32 >>> ((4 : Int32) &&& 31).toUInt32).toInt32) &&& (63 : Int32))), .unset, .unset, .unset, .unset, .unset, .unset, .unset, .unset, .unset] [(.int vlay), (.int (1 : Int32))])) _
    refine XS.bipush X2.here hx rfl (hb hby at_30) ?_
    show Steps p.tables e below (T2.setTop (mkF m 32 #[.val (.int vlay), .val (.int vend), .val (.int vsc), .val (.long vbits), .second, .val (.int (vlay &&& (3 : Int32))), .val (.int (if (((vlay.toUInt32 >>> ((2 : Int32) &&& 31).toUInt32).toInt32) &&& (3 : Int32)) = (0 : Int32) then (1 : Int32) else (0 : Int32))), .val (.int (((vlay.toUInt32 >>> ((4 : Int32) &&& 31).toUInt32).toInt32) &&& (63 : Int32))), .unset, .unset, .unset, .unset, .unset, .unset, .unset, .unset, .unset] [(.int (10 : Int32)), (.int vlay), (.int (1 : Int32))])) _
    refine XS.iushr X2.here hx rfl (hb hby at_32) rfl ?_
    show Steps p.tables e below (T2.setTop (mkF m 33 #[.val (.int vlay), .val (.int vend), .val (.int vsc), .val (.long vbits), .second, .val (.int (vlay &&& (3 : Int32))), .val (.int (if (((vlay.toUInt32 >>> ((2 : Int32) &&& 31).toUInt32).toInt32) &&& (3 : Int32)) = (0 : Int32) then (1 : Int32) else (0 : Int32))), .val (.int (((vlay.toUInt32 >>> ((4 : Int32) &&& 31).toUInt32).toInt32) &&& (63 : Int32))), .unset, .unset, .unset, .unset, .unset, .unset, .unset, .unset, .unset] [(.int ((vlay.toUInt32 >>> ((10 : Int32) &&& 31).toUInt32).toInt32)), (.int (1 : Int32))])) _
    refine X2.ldcI hx hown (mvT hZ (hw _ (List.mem_of_getElem? (i := 0) rfl))) (g := (mkF m 33 #[.val (.int vlay), .val (.int vend), .val (.int vsc), .val (.long vbits), .second, .val (.int (vlay &&& (3 : Int32))), .val (.int (if (((vlay.toUInt32 >>> ((2 : Int32) &&& 31).toUInt32).toInt32) &&& (3 : Int32)) = (0 : Int32) then (1 : Int32) else (0 : Int32))), .val (.int (((vlay.toUInt32 >>> ((4 : Int32) &&& 31).toUInt32).toInt32) &&& (63 : Int32))), .unset, .unset, .unset, .unset, .unset, .unset, .unset, .unset, .unset] [(.int ((vlay.toUInt32 >>> ((10 : Int32) &&& 31).toUInt32).toInt32)), (.int (1 : Int32))])) rfl (hb hby at_33) ?_
    show Steps p.tables e below (T2.setTop (mkF m 35 #[.val (.int vlay), .val (.int vend), .val (.int vsc), .val (.long vbits), .second, .val (.int (vlay &&& (3 : Int32))), .val (.int (if (((vlay.toUInt32 >>> ((2 : Int32) &&& 31).toUInt32).toInt32) &&& (3 : Int32)) = (0 : Int32) then (1 : Int32) else (0 : Int32))), .val (.int (((vlay.toUInt32 >>> ((4 : Int32) &&& 31).toUInt32).toInt32) &&& (63 : Int32))), .unset, .unset, .unset, .unset, .unset, .unset, .unset, .unset, .unset] [(.int (2147483647 : Int32)), (.int ((vlay.toUInt32 >>> ((10 : Int32) &&& 31).toUInt32).toInt32)), (.int (1 : Int32))])) _
    refine XS.iand X2.here hx rfl (hb hby at_35) rfl ?_
    show Steps p.tables e below (T2.setTop (mkF m 36 #[.val (.int vlay), .val (.int vend), .val (.int vsc), .val (.long vbits), .second, .val (.int (vlay &&& (3 : Int32))), .val (.int (if (((vlay.toUInt32 >>> ((2 : Int32) &&& 31).toUInt32).toInt32) &&& (3 : Int32)) = (0 : Int32) then (1 : Int32) else (0 : Int32))), .val (.int (((vlay.toUInt32 >>> ((4 : Int32) &&& 31).toUInt32).toInt32) &&& (63 : Int32))), .unset, .unset, .unset, .unset, .unset, .unset, .unset, .unset, .unset] [(.int (((vlay.toUInt32 >>> ((10 : Int32) &&& 31).toUInt32).toInt32) &&& (2147483647 : Int32))), (.int (1 : Int32))])) _
    refine XS.bipush X2.here hx rfl (hb hby at_36) ?_
    show Steps p.tables e below (T2.setTop (mkF m 38 #[.val (.int vlay), .val (.int vend), .val (.int vsc), .val (.long vbits), .second, .val (.int (vlay &&& (3 : Int32))), .val (.int (if (((vlay.toUInt32 >>> ((2 : Int32) &&& 31).toUInt32).toInt32) &&& (3 : Int32)) = (0 : Int32) then (1 : Int32) else (0 : Int32))), .val (.int (((vlay.toUInt32 >>> ((4 : Int32) &&& 31).toUInt32).toInt32) &&& (63 : Int32))), .unset, .unset, .unset, .unset, .unset, .unset, .unset, .unset, .unset] [(.int (9 : Int32)), (.int (((vlay.toUInt32 >>> ((10 : Int32) &&& 31).toUInt32).toInt32) &&& (2147483647 : Int32))), (.int (1 : Int32))])) _
    refine iremM X2 hx rfl (hb hby at_38) rfl (by decide) ?_
    show Steps p.tables e below (T2.setTop (mkF m 39 #[.val (.int vlay), .val (.int vend), .val (.int vsc), .val (.long vbits), .second, .val (.int (vlay &&& (3 : Int32))), .val (.int (if (((vlay.toUInt32 >>> ((2 : Int32) &&& 31).toUInt32).toInt32) &&& (3 : Int32)) = (0 : Int32) then (1 : Int32) else (0 : Int32))), .val (.int (((vlay.toUInt32 >>> ((4 : Int32) &&& 31).toUInt32).toInt32) &&& (63 : Int32))), .unset, .unset, .unset, .unset, .unset, .unset, .unset, .unset, .unset] [(.int ((((vlay.toUInt32 >>> ((10 : Int32) &&& 31).toUInt32).toInt32) &&& (2147483647 : Int32)) % (9 : Int32))), (.int (1 : Int32))])) _
    refine XS.iadd X2.here hx rfl (hb hby at_39) rfl ?_
    show Steps p.tables e below (T2.setTop (mkF m 40 #[.val (.int vlay), .val (.int vend), .val (.int vsc), .val (.long vbits), .second, .val (.int (vlay &&& (3 : Int32))), .val (.int (if (((vlay.toUInt32 >>> ((2 : Int32) &&& 31).toUInt32).toInt32) &&& (3 : Int32)) = (0 : Int32) then (1 : Int32) else (0 : Int32))), .val (.int (((vlay.toUInt32 >>> ((4 : Int32) &&& 31).toUInt32).toInt32) &&& (63 : Int32))), .unset, .unset, .unset, .unset, .unset, .unset, .unset, .unset, .unset] [(.int ((1 : Int32) + ((((vlay.toUInt32 >>> ((10 : Int32) &&& 31).toUInt32).toInt32) &&& (2147483647 : Int32)) % (9 : Int32))))])) _
    refine XS.istore X2.here hx rfl (hb hby at_40) rfl (l' := #[.val (.int vlay), .val (.int vend), .val (.int vsc), .val (.long vbits), .second, .val (.int (vlay &&& (3 : Int32))), .val (.int (if (((vlay.toUInt32 >>> ((2 : Int32) &&& 31).toUInt32).toInt32) &&& (3 : Int32)) = (0 : Int32) then (1 : Int32) else (0 : Int32))), .val (.int (((vlay.toUInt32 >>> ((4 : Int32) &&& 31).toUInt32).toInt32) &&& (63 : Int32))), .val (.int ((1 : Int32) + ((((vlay.toUInt32 >>> ((10 : Int32) &&& 31).toUInt32).toInt32) &&& (2147483647 : Int32)) % (9 : Int32)))), .unset, .unset, .unset, .unset, .unset, .unset, .unset, .unset]) rfl ?_
    show Steps p.tables e below (T2.setTop (mkF m 42 #[.val (.int vlay), .val (.int vend), .val (.int vsc), .val (.long vbits), .second, .val (.int (vlay &&& (3 : Int32))), .val (.int (if (((vlay.toUInt32 >>> ((2 : Int32) &&& 31).toUInt32).toInt32) &&& (3 : Int32)) = (0 : Int32) then (1 : Int32) else (0 : Int32))), .val (.int (((vlay.toUInt32 >>> ((4 : Int32) &&& 31).toUInt32).toInt32) &&& (63 : Int32))), .val (.int ((1 : Int32) + ((((vlay.toUInt32 >>> ((10 : Int32) &&& 31).toUInt32).toInt32) &&& (2147483647 : Int32)) % (9 : Int32)))), .unset, .unset, .unset, .unset, .unset, .unset, .unset, .unset] [])) _
    refine XS.iloadN X2.here hx rfl (hb hby at_42) rfl ?_
    show Steps p.tables e below (T2.setTop (mkF m 43 #[.val (.int vlay), .val (.int vend), .val (.int vsc), .val (.long vbits), .second, .val (.int (vlay &&& (3 : Int32))), .val (.int (if (((vlay.toUInt32 >>> ((2 : Int32) &&& 31).toUInt32).toInt32) &&& (3 : Int32)) = (0 : Int32) then (1 : Int32) else (0 : Int32))), .val (.int (((vlay.toUInt32 >>> ((4 : Int32) &&& 31).toUInt32).toInt32) &&& (63 : Int32))), .val (.int ((1 : Int32) + ((((vlay.toUInt32 >>> ((10 : Int32) &&& 31).toUInt32).toInt32) &&& (2147483647 : Int32)) % (9 : Int32)))), .unset, .unset, .unset, .unset, .unset, .unset, .unset, .unset] [(.int vend)])) _
    refine X2.ldcI hx hown (mvT hZ (hw _ (List.mem_of_getElem? (i := 0) rfl))) (g := (mkF m 43 #[.val (.int vlay), .val (.int vend), .val (.int vsc), .val (.long vbits), .second, .val (.int (vlay &&& (3 : Int32))), .val (.int (if (((vlay.toUInt32 >>> ((2 : Int32) &&& 31).toUInt32).toInt32) &&& (3 : Int32)) = (0 : Int32) then (1 : Int32) else (0 : Int32))), .val (.int (((vlay.toUInt32 >>> ((4 : Int32) &&& 31).toUInt32).toInt32) &&& (63 : Int32))), .val (.int ((1 : Int32) + ((((vlay.toUInt32 >>> ((10 : Int32) &&& 31).toUInt32).toInt32) &&& (2147483647 : Int32)) % (9 : Int32)))), .unset, .unset, .unset, .unset, .unset, .unset, .unset, .unset] [(.int vend)])) rfl (hb hby at_43) ?_
    show Steps p.tables e below (T2.setTop (mkF m 45 #[.val (.int vlay), .val (.int vend), .val (.int vsc), .val (.long vbits), .second, .val (.int (vlay &&& (3 : Int32))), .val (.int (if (((vlay.toUInt32 >>> ((2 : Int32) &&& 31).toUInt32).toInt32) &&& (3 : Int32)) = (0 : Int32) then (1 : Int32) else (0 : Int32))), .val (.int (((vlay.toUInt32 >>> ((4 : Int32) &&& 31).toUInt32).toInt32) &&& (63 : Int32))), .val (.int ((1 : Int32) + ((((vlay.toUInt32 >>> ((10 : Int32) &&& 31).toUInt32).toInt32) &&& (2147483647 : Int32)) % (9 : Int32)))), .unset, .unset, .unset, .unset, .unset, .unset, .unset, .unset] [(.int (2147483647 : Int32)), (.int vend)])) _
    refine XS.iand X2.here hx rfl (hb hby at_45) rfl ?_
    show Steps p.tables e below (T2.setTop (mkF m 46 #[.val (.int vlay), .val (.int vend), .val (.int vsc), .val (.long vbits), .second, .val (.int (vlay &&& (3 : Int32))), .val (.int (if (((vlay.toUInt32 >>> ((2 : Int32) &&& 31).toUInt32).toInt32) &&& (3 : Int32)) = (0 : Int32) then (1 : Int32) else (0 : Int32))), .val (.int (((vlay.toUInt32 >>> ((4 : Int32) &&& 31).toUInt32).toInt32) &&& (63 : Int32))), .val (.int ((1 : Int32) + ((((vlay.toUInt32 >>> ((10 : Int32) &&& 31).toUInt32).toInt32) &&& (2147483647 : Int32)) % (9 : Int32)))), .unset, .unset, .unset, .unset, .unset, .unset, .unset, .unset] [(.int (vend &&& (2147483647 : Int32)))])) _
    refine XS.bipush X2.here hx rfl (hb hby at_46) ?_
    show Steps p.tables e below (T2.setTop (mkF m 48 #[.val (.int vlay), .val (.int vend), .val (.int vsc), .val (.long vbits), .second, .val (.int (vlay &&& (3 : Int32))), .val (.int (if (((vlay.toUInt32 >>> ((2 : Int32) &&& 31).toUInt32).toInt32) &&& (3 : Int32)) = (0 : Int32) then (1 : Int32) else (0 : Int32))), .val (.int (((vlay.toUInt32 >>> ((4 : Int32) &&& 31).toUInt32).toInt32) &&& (63 : Int32))), .val (.int ((1 : Int32) + ((((vlay.toUInt32 >>> ((10 : Int32) &&& 31).toUInt32).toInt32) &&& (2147483647 : Int32)) % (9 : Int32)))), .unset, .unset, .unset, .unset, .unset, .unset, .unset, .unset] [(.int (45 : Int32)), (.int (vend &&& (2147483647 : Int32)))])) _
    refine iremM X2 hx rfl (hb hby at_48) rfl (by decide) ?_
    show Steps p.tables e below (T2.setTop (mkF m 49 #[.val (.int vlay), .val (.int vend), .val (.int vsc), .val (.long vbits), .second, .val (.int (vlay &&& (3 : Int32))), .val (.int (if (((vlay.toUInt32 >>> ((2 : Int32) &&& 31).toUInt32).toInt32) &&& (3 : Int32)) = (0 : Int32) then (1 : Int32) else (0 : Int32))), .val (.int (((vlay.toUInt32 >>> ((4 : Int32) &&& 31).toUInt32).toInt32) &&& (63 : Int32))), .val (.int ((1 : Int32) + ((((vlay.toUInt32 >>> ((10 : Int32) &&& 31).toUInt32).toInt32) &&& (2147483647 : Int32)) % (9 : Int32)))), .unset, .unset, .unset, .unset, .unset, .unset, .unset, .unset] [(.int ((vend &&& (2147483647 : Int32)) % (45 : Int32)))])) _
    refine XS.istore X2.here hx rfl (hb hby at_49) rfl (l' := #[.val (.int vlay), .val (.int vend), .val (.int vsc), .val (.long vbits), .second, .val (.int (vlay &&& (3 : Int32))), .val (.int (if (((vlay.toUInt32 >>> ((2 : Int32) &&& 31).toUInt32).toInt32) &&& (3 : Int32)) = (0 : Int32) then (1 : Int32) else (0 : Int32))), .val (.int (((vlay.toUInt32 >>> ((4 : Int32) &&& 31).toUInt32).toInt32) &&& (63 : Int32))), .val (.int ((1 : Int32) + ((((vlay.toUInt32 >>> ((10 : Int32) &&& 31).toUInt32).toInt32) &&& (2147483647 : Int32)) % (9 : Int32)))), .val (.int ((vend &&& (2147483647 : Int32)) % (45 : Int32))), .unset, .unset, .unset, .unset, .unset, .unset, .unset]) rfl ?_
    exact kt
  obtain ⟨zz, hzz⟩ : ∃ z : Int32, z = (vlay &&& (3 : Int32)) := ⟨_, rfl⟩
  rw [← hzz] at pre6
  obtain ⟨az, haz⟩ : ∃ z : Int32, z = (if (((vlay.toUInt32 >>> ((2 : Int32) &&& 31).toUInt32).toInt32) &&& (3 : Int32)) = (0 : Int32) then (1 : Int32) else (0 : Int32)) := ⟨_, rfl⟩
  rw [← haz] at pre6
  obtain ⟨pp, hpp⟩ : ∃ z : Int32, z = (((vlay.toUInt32 >>> ((4 : Int32) &&& 31).toUInt32).toInt32) &&& (63 : Int32)) := ⟨_, rfl⟩
  rw [← hpp] at pre6
  obtain ⟨ff, hff⟩ : ∃ z : Int32, z = ((1 : Int32) + ((((vlay.toUInt32 >>> ((10 : Int32) &&& 31).toUInt32).toInt32) &&& (2147483647 : Int32)) % (9 : Int32))) := ⟨_, rfl⟩
  rw [← hff] at pre6
  obtain ⟨ee, hee⟩ : ∃ z : Int32, z = ((vend &&& (2147483647 : Int32)) % (45 : Int32)) := ⟨_, rfl⟩
  rw [← hee] at pre6
  obtain ⟨ne, bne, rfl⟩ := own_e45 hee
  obtain ⟨T7, h7, k7, X7, e7, E7, A7, st7⟩ := newP X2 hx hZ (hw _ (List.mem_of_getElem? (i := 1) rfl)) e2 (g := (mkF m 53 #[.val (.int vlay), .val (.int vend), .val (.int vsc), .val (.long vbits), .second, .val (.int zz), .val (.int az), .val (.int pp), .val (.int ff), .val (.int (Int32.ofNat ne)), .unset, .unset, .unset, .unset, .unset, .unset, .unset] [(.int (44 : Int32))])) rfl (hb hby at_53) rfl (by decide) (cap := 44) (by decide) (by decide) (by decide) (by decide)
  obtain ⟨b7, g7⟩ : ∃ z, z = h0.size := ⟨_, rfl⟩
  rw [← g7] at A7 st7
  have g_b7 : n0 ≤ b7 := Nat.le_trans Z0 (Nat.le_of_eq g7.symm)
  have sz_b7 : h0.size ≤ b7 := Nat.le_trans (Keep.refl h0 []).1 (Nat.le_of_eq g7.symm)
  have Z7 : n0 ≤ h7.size := Nat.le_trans Z0 E7.1
  have K7 : Keep h0 h7 [] := (Keep.refl h0 []).ext E7
  have V7 : Arv Z h7 b7 k7 .char (44 : Int32) [(.int (0 : Int32)), (.int (0 : Int32)), (.int (0 : Int32)), (.int (0 : Int32)), (.int (0 : Int32)), (.int (0 : Int32)), (.int (0 : Int32)), (.int (0 : Int32)), (.int (0 : Int32)), (.int (0 : Int32)), (.int (0 : Int32)), (.int (0 : Int32)), (.int (0 : Int32)), (.int (0 : Int32)), (.int (0 : Int32)), (.int (0 : Int32)), (.int (0 : Int32)), (.int (0 : Int32)), (.int (0 : Int32)), (.int (0 : Int32)), (.int (0 : Int32)), (.int (0 : Int32)), (.int (0 : Int32)), (.int (0 : Int32)), (.int (0 : Int32)), (.int (0 : Int32)), (.int (0 : Int32)), (.int (0 : Int32)), (.int (0 : Int32)), (.int (0 : Int32)), (.int (0 : Int32)), (.int (0 : Int32)), (.int (0 : Int32)), (.int (0 : Int32)), (.int (0 : Int32)), (.int (0 : Int32)), (.int (0 : Int32)), (.int (0 : Int32)), (.int (0 : Int32)), (.int (0 : Int32)), (.int (0 : Int32)), (.int (0 : Int32)), (.int (0 : Int32)), (.int (0 : Int32))] (.int (0 : Int32)) := (Arv.new A7 (by decide)).pad (pad_rep [] (.int (0 : Int32)) 44)
  have V0 : Arv Z h7 b7 k7 .char (44 : Int32) (own_fill (own_f pp zz az ff vbits) 0) (.int (0 : Int32)) := V7.pad (fun i => own_fill0 _ i)
  obtain ⟨_, _, ⟨T8, L8, k8, n8⟩, -, X8, ⟨Lc8, hQ8, l8, y8, z8⟩, st8⟩ := Jvm.LawKit.callS X7 hx (y := (⟨"com/example/paniere/paniere/DigitsInTwoLongsPinLaw", "ch", "(IIIZIJ)C"⟩ : MethodName)) hown (mvT hZ (hw _ (List.mem_of_getElem? (i := 2) rfl))) (mvT hZ (hw _ (List.mem_of_getElem? (i := 3) rfl))) (mvT hZ (hw _ (List.mem_of_getElem? (i := 4) rfl))) (mvT hZ (hw _ (List.mem_of_getElem? (i := 5) rfl))) (by decide) (backOf (W := 3) (rm1 l Z a0 hw [] (0 : Int32) pp zz az ff vbits  h7 n0 Z7 ) hZ (hw _ (List.mem_of_getElem? (i := 5) rfl)) (hw _ (List.mem_of_getElem? (i := 4) rfl)) (by decide) (by decide)) (g := (mkF m 67 #[.val (.int vlay), .val (.int vend), .val (.int vsc), .val (.long vbits), .second, .val (.int zz), .val (.int az), .val (.int pp), .val (.int ff), .val (.int (Int32.ofNat ne)), .unset, .unset, .unset, .unset, .unset, .unset, .unset] [(.long vbits), (.int ff), (.int az), (.int zz), (.int pp), (.int (0 : Int32)), (.int (0 : Int32)), (.ref b7), (.ref b7)])) rfl (by rw [hml]; rfl) (argsL := [(.int (0 : Int32)), (.int pp), (.int zz), (.int az), (.int ff), (.long vbits)]) (rest := [(.int (0 : Int32)), (.ref b7), (.ref b7)]) (lenOf pd_4 rfl) rfl (by show 2 * 0 + _ ≤ _; exact Nat.le_of_eq rfl) (hb hby at_67) (fun _ _ => ⟨rfl, e7, (by decide : 1 + 0 ≤ _), (by decide : 44 + 0 ≤ _)⟩)
  dsimp only [Pt.U, Pt.locs, Pt.cells, Pt.slots] at X8 l8 y8 z8 st8 hQ8
  obtain rfl : k8 = 1 := y8; obtain rfl : n8 = 44 := z8
  obtain ⟨rfl, N8q, e8q⟩ := hQ8
  have N8 : Fr n0 L8 := Eq.mpr (congrArg (Fr n0) l8) (Fr.app N2 N8q)
  obtain ⟨cl9, Ar9, q9, S9, NN9, HH9, GG9⟩ := id V0
  have hin9 : ¬ ((0 : Int32) < 0 ∨ cl9.slots.size ≤ ((0 : Int32)).toNatClampNeg) := inb_of S9 ⟨by decide, by decide⟩
  obtain ⟨T10, h10, X10, e10, W10, st10⟩ := stC X8 hx hZ e8q Ar9 (j := (0 : Int32)) hin9  (g := (mkF m 70 #[.val (.int vlay), .val (.int vend), .val (.int vsc), .val (.long vbits), .second, .val (.int zz), .val (.int az), .val (.int pp), .val (.int ff), .val (.int (Int32.ofNat ne)), .unset, .unset, .unset, .unset, .unset, .unset, .unset] [(.int (own_ch (0 : Int32) pp zz az ff vbits)), (.int (0 : Int32)), (.ref b7), (.ref b7)])) rfl rfl (hb hby at_70)
  have V10 : Arv Z h10 b7 k7 .char (44 : Int32) (own_fill (own_f pp zz az ff vbits) 1) (.int (0 : Int32)) := own_arv_eq (own_fill_set (f := (own_f pp zz az ff vbits)) (k := 0) (v := (own_f pp zz az ff vbits) 0) (by decide) rfl rfl) (Arv.set Ar9 q9 S9 NN9 HH9 GG9 (fits_nar_char _) W10 0 rfl (by rw [own_fill_len]; decide))
  have Z10 : n0 ≤ h10.size := Nat.le_trans Z7 (Keep.of_wr W10).1
  have N10 := Fr.snoc X10 N8 g_b7
  have K10 : Keep h0 h10 [] := K7.wr W10 (Or.inr sz_b7)
  obtain ⟨_, _, ⟨T11, L11, k11, n11⟩, -, X11, ⟨Lc11, hQ11, l11, y11, z11⟩, st11⟩ := Jvm.LawKit.callS X10 hx (y := (⟨"com/example/paniere/paniere/DigitsInTwoLongsPinLaw", "ch", "(IIIZIJ)C"⟩ : MethodName)) hown (mvT hZ (hw _ (List.mem_of_getElem? (i := 2) rfl))) (mvT hZ (hw _ (List.mem_of_getElem? (i := 3) rfl))) (mvT hZ (hw _ (List.mem_of_getElem? (i := 4) rfl))) (mvT hZ (hw _ (List.mem_of_getElem? (i := 5) rfl))) (by decide) (backOf (W := 3) (rm1 l Z a0 hw [] (1 : Int32) pp zz az ff vbits  h10 n0 Z10 ) hZ (hw _ (List.mem_of_getElem? (i := 5) rfl)) (hw _ (List.mem_of_getElem? (i := 4) rfl)) (by decide) (by decide)) (g := (mkF m 83 #[.val (.int vlay), .val (.int vend), .val (.int vsc), .val (.long vbits), .second, .val (.int zz), .val (.int az), .val (.int pp), .val (.int ff), .val (.int (Int32.ofNat ne)), .unset, .unset, .unset, .unset, .unset, .unset, .unset] [(.long vbits), (.int ff), (.int az), (.int zz), (.int pp), (.int (1 : Int32)), (.int (1 : Int32)), (.ref b7), (.ref b7)])) rfl (by rw [hml]; rfl) (argsL := [(.int (1 : Int32)), (.int pp), (.int zz), (.int az), (.int ff), (.long vbits)]) (rest := [(.int (1 : Int32)), (.ref b7), (.ref b7)]) (lenOf pd_4 rfl) rfl (by show 2 * 0 + _ ≤ _; exact Nat.le_of_eq rfl) (hb hby at_83) (fun _ _ => ⟨rfl, e10, (by decide : 1 + 0 ≤ _), (by decide : 44 + 0 ≤ _)⟩)
  dsimp only [Pt.U, Pt.locs, Pt.cells, Pt.slots] at X11 l11 y11 z11 st11 hQ11
  obtain rfl : k11 = 1 := y11; obtain rfl : n11 = 44 := z11
  obtain ⟨rfl, N11q, e11q⟩ := hQ11
  have N11 : Fr n0 L11 := Eq.mpr (congrArg (Fr n0) l11) (Fr.app N10 N11q)
  obtain ⟨cl12, Ar12, q12, S12, NN12, HH12, GG12⟩ := id V10
  have hin12 : ¬ ((1 : Int32) < 0 ∨ cl12.slots.size ≤ ((1 : Int32)).toNatClampNeg) := inb_of S12 ⟨by decide, by decide⟩
  obtain ⟨T13, h13, X13, e13, W13, st13⟩ := stC X11 hx hZ e11q Ar12 (j := (1 : Int32)) hin12  (g := (mkF m 86 #[.val (.int vlay), .val (.int vend), .val (.int vsc), .val (.long vbits), .second, .val (.int zz), .val (.int az), .val (.int pp), .val (.int ff), .val (.int (Int32.ofNat ne)), .unset, .unset, .unset, .unset, .unset, .unset, .unset] [(.int (own_ch (1 : Int32) pp zz az ff vbits)), (.int (1 : Int32)), (.ref b7), (.ref b7)])) rfl rfl (hb hby at_86)
  have V13 : Arv Z h13 b7 k7 .char (44 : Int32) (own_fill (own_f pp zz az ff vbits) 2) (.int (0 : Int32)) := own_arv_eq (own_fill_set (f := (own_f pp zz az ff vbits)) (k := 1) (v := (own_f pp zz az ff vbits) 1) (by decide) rfl rfl) (Arv.set Ar12 q12 S12 NN12 HH12 GG12 (fits_nar_char _) W13 1 rfl (by rw [own_fill_len]; decide))
  have Z13 : n0 ≤ h13.size := Nat.le_trans Z10 (Keep.of_wr W13).1
  have N13 := Fr.snoc X13 N11 g_b7
  have K13 : Keep h0 h13 [] := K10.wr W13 (Or.inr sz_b7)
  obtain ⟨_, _, ⟨T14, L14, k14, n14⟩, -, X14, ⟨Lc14, hQ14, l14, y14, z14⟩, st14⟩ := Jvm.LawKit.callS X13 hx (y := (⟨"com/example/paniere/paniere/DigitsInTwoLongsPinLaw", "ch", "(IIIZIJ)C"⟩ : MethodName)) hown (mvT hZ (hw _ (List.mem_of_getElem? (i := 2) rfl))) (mvT hZ (hw _ (List.mem_of_getElem? (i := 3) rfl))) (mvT hZ (hw _ (List.mem_of_getElem? (i := 4) rfl))) (mvT hZ (hw _ (List.mem_of_getElem? (i := 5) rfl))) (by decide) (backOf (W := 3) (rm1 l Z a0 hw [] (2 : Int32) pp zz az ff vbits  h13 n0 Z13 ) hZ (hw _ (List.mem_of_getElem? (i := 5) rfl)) (hw _ (List.mem_of_getElem? (i := 4) rfl)) (by decide) (by decide)) (g := (mkF m 99 #[.val (.int vlay), .val (.int vend), .val (.int vsc), .val (.long vbits), .second, .val (.int zz), .val (.int az), .val (.int pp), .val (.int ff), .val (.int (Int32.ofNat ne)), .unset, .unset, .unset, .unset, .unset, .unset, .unset] [(.long vbits), (.int ff), (.int az), (.int zz), (.int pp), (.int (2 : Int32)), (.int (2 : Int32)), (.ref b7), (.ref b7)])) rfl (by rw [hml]; rfl) (argsL := [(.int (2 : Int32)), (.int pp), (.int zz), (.int az), (.int ff), (.long vbits)]) (rest := [(.int (2 : Int32)), (.ref b7), (.ref b7)]) (lenOf pd_4 rfl) rfl (by show 2 * 0 + _ ≤ _; exact Nat.le_of_eq rfl) (hb hby at_99) (fun _ _ => ⟨rfl, e13, (by decide : 1 + 0 ≤ _), (by decide : 44 + 0 ≤ _)⟩)
  dsimp only [Pt.U, Pt.locs, Pt.cells, Pt.slots] at X14 l14 y14 z14 st14 hQ14
  obtain rfl : k14 = 1 := y14; obtain rfl : n14 = 44 := z14
  obtain ⟨rfl, N14q, e14q⟩ := hQ14
  have N14 : Fr n0 L14 := Eq.mpr (congrArg (Fr n0) l14) (Fr.app N13 N14q)
  obtain ⟨cl15, Ar15, q15, S15, NN15, HH15, GG15⟩ := id V13
  have hin15 : ¬ ((2 : Int32) < 0 ∨ cl15.slots.size ≤ ((2 : Int32)).toNatClampNeg) := inb_of S15 ⟨by decide, by decide⟩
  obtain ⟨T16, h16, X16, e16, W16, st16⟩ := stC X14 hx hZ e14q Ar15 (j := (2 : Int32)) hin15  (g := (mkF m 102 #[.val (.int vlay), .val (.int vend), .val (.int vsc), .val (.long vbits), .second, .val (.int zz), .val (.int az), .val (.int pp), .val (.int ff), .val (.int (Int32.ofNat ne)), .unset, .unset, .unset, .unset, .unset, .unset, .unset] [(.int (own_ch (2 : Int32) pp zz az ff vbits)), (.int (2 : Int32)), (.ref b7), (.ref b7)])) rfl rfl (hb hby at_102)
  have V16 : Arv Z h16 b7 k7 .char (44 : Int32) (own_fill (own_f pp zz az ff vbits) 3) (.int (0 : Int32)) := own_arv_eq (own_fill_set (f := (own_f pp zz az ff vbits)) (k := 2) (v := (own_f pp zz az ff vbits) 2) (by decide) rfl rfl) (Arv.set Ar15 q15 S15 NN15 HH15 GG15 (fits_nar_char _) W16 2 rfl (by rw [own_fill_len]; decide))
  have Z16 : n0 ≤ h16.size := Nat.le_trans Z13 (Keep.of_wr W16).1
  have N16 := Fr.snoc X16 N14 g_b7
  have K16 : Keep h0 h16 [] := K13.wr W16 (Or.inr sz_b7)
  obtain ⟨_, _, ⟨T17, L17, k17, n17⟩, -, X17, ⟨Lc17, hQ17, l17, y17, z17⟩, st17⟩ := Jvm.LawKit.callS X16 hx (y := (⟨"com/example/paniere/paniere/DigitsInTwoLongsPinLaw", "ch", "(IIIZIJ)C"⟩ : MethodName)) hown (mvT hZ (hw _ (List.mem_of_getElem? (i := 2) rfl))) (mvT hZ (hw _ (List.mem_of_getElem? (i := 3) rfl))) (mvT hZ (hw _ (List.mem_of_getElem? (i := 4) rfl))) (mvT hZ (hw _ (List.mem_of_getElem? (i := 5) rfl))) (by decide) (backOf (W := 3) (rm1 l Z a0 hw [] (3 : Int32) pp zz az ff vbits  h16 n0 Z16 ) hZ (hw _ (List.mem_of_getElem? (i := 5) rfl)) (hw _ (List.mem_of_getElem? (i := 4) rfl)) (by decide) (by decide)) (g := (mkF m 115 #[.val (.int vlay), .val (.int vend), .val (.int vsc), .val (.long vbits), .second, .val (.int zz), .val (.int az), .val (.int pp), .val (.int ff), .val (.int (Int32.ofNat ne)), .unset, .unset, .unset, .unset, .unset, .unset, .unset] [(.long vbits), (.int ff), (.int az), (.int zz), (.int pp), (.int (3 : Int32)), (.int (3 : Int32)), (.ref b7), (.ref b7)])) rfl (by rw [hml]; rfl) (argsL := [(.int (3 : Int32)), (.int pp), (.int zz), (.int az), (.int ff), (.long vbits)]) (rest := [(.int (3 : Int32)), (.ref b7), (.ref b7)]) (lenOf pd_4 rfl) rfl (by show 2 * 0 + _ ≤ _; exact Nat.le_of_eq rfl) (hb hby at_115) (fun _ _ => ⟨rfl, e16, (by decide : 1 + 0 ≤ _), (by decide : 44 + 0 ≤ _)⟩)
  dsimp only [Pt.U, Pt.locs, Pt.cells, Pt.slots] at X17 l17 y17 z17 st17 hQ17
  obtain rfl : k17 = 1 := y17; obtain rfl : n17 = 44 := z17
  obtain ⟨rfl, N17q, e17q⟩ := hQ17
  have N17 : Fr n0 L17 := Eq.mpr (congrArg (Fr n0) l17) (Fr.app N16 N17q)
  obtain ⟨cl18, Ar18, q18, S18, NN18, HH18, GG18⟩ := id V16
  have hin18 : ¬ ((3 : Int32) < 0 ∨ cl18.slots.size ≤ ((3 : Int32)).toNatClampNeg) := inb_of S18 ⟨by decide, by decide⟩
  obtain ⟨T19, h19, X19, e19, W19, st19⟩ := stC X17 hx hZ e17q Ar18 (j := (3 : Int32)) hin18  (g := (mkF m 118 #[.val (.int vlay), .val (.int vend), .val (.int vsc), .val (.long vbits), .second, .val (.int zz), .val (.int az), .val (.int pp), .val (.int ff), .val (.int (Int32.ofNat ne)), .unset, .unset, .unset, .unset, .unset, .unset, .unset] [(.int (own_ch (3 : Int32) pp zz az ff vbits)), (.int (3 : Int32)), (.ref b7), (.ref b7)])) rfl rfl (hb hby at_118)
  have V19 : Arv Z h19 b7 k7 .char (44 : Int32) (own_fill (own_f pp zz az ff vbits) 4) (.int (0 : Int32)) := own_arv_eq (own_fill_set (f := (own_f pp zz az ff vbits)) (k := 3) (v := (own_f pp zz az ff vbits) 3) (by decide) rfl rfl) (Arv.set Ar18 q18 S18 NN18 HH18 GG18 (fits_nar_char _) W19 3 rfl (by rw [own_fill_len]; decide))
  have Z19 : n0 ≤ h19.size := Nat.le_trans Z16 (Keep.of_wr W19).1
  have N19 := Fr.snoc X19 N17 g_b7
  have K19 : Keep h0 h19 [] := K16.wr W19 (Or.inr sz_b7)
  obtain ⟨_, _, ⟨T20, L20, k20, n20⟩, -, X20, ⟨Lc20, hQ20, l20, y20, z20⟩, st20⟩ := Jvm.LawKit.callS X19 hx (y := (⟨"com/example/paniere/paniere/DigitsInTwoLongsPinLaw", "ch", "(IIIZIJ)C"⟩ : MethodName)) hown (mvT hZ (hw _ (List.mem_of_getElem? (i := 2) rfl))) (mvT hZ (hw _ (List.mem_of_getElem? (i := 3) rfl))) (mvT hZ (hw _ (List.mem_of_getElem? (i := 4) rfl))) (mvT hZ (hw _ (List.mem_of_getElem? (i := 5) rfl))) (by decide) (backOf (W := 3) (rm1 l Z a0 hw [] (4 : Int32) pp zz az ff vbits  h19 n0 Z19 ) hZ (hw _ (List.mem_of_getElem? (i := 5) rfl)) (hw _ (List.mem_of_getElem? (i := 4) rfl)) (by decide) (by decide)) (g := (mkF m 131 #[.val (.int vlay), .val (.int vend), .val (.int vsc), .val (.long vbits), .second, .val (.int zz), .val (.int az), .val (.int pp), .val (.int ff), .val (.int (Int32.ofNat ne)), .unset, .unset, .unset, .unset, .unset, .unset, .unset] [(.long vbits), (.int ff), (.int az), (.int zz), (.int pp), (.int (4 : Int32)), (.int (4 : Int32)), (.ref b7), (.ref b7)])) rfl (by rw [hml]; rfl) (argsL := [(.int (4 : Int32)), (.int pp), (.int zz), (.int az), (.int ff), (.long vbits)]) (rest := [(.int (4 : Int32)), (.ref b7), (.ref b7)]) (lenOf pd_4 rfl) rfl (by show 2 * 0 + _ ≤ _; exact Nat.le_of_eq rfl) (hb hby at_131) (fun _ _ => ⟨rfl, e19, (by decide : 1 + 0 ≤ _), (by decide : 44 + 0 ≤ _)⟩)
  dsimp only [Pt.U, Pt.locs, Pt.cells, Pt.slots] at X20 l20 y20 z20 st20 hQ20
  obtain rfl : k20 = 1 := y20; obtain rfl : n20 = 44 := z20
  obtain ⟨rfl, N20q, e20q⟩ := hQ20
  have N20 : Fr n0 L20 := Eq.mpr (congrArg (Fr n0) l20) (Fr.app N19 N20q)
  obtain ⟨cl21, Ar21, q21, S21, NN21, HH21, GG21⟩ := id V19
  have hin21 : ¬ ((4 : Int32) < 0 ∨ cl21.slots.size ≤ ((4 : Int32)).toNatClampNeg) := inb_of S21 ⟨by decide, by decide⟩
  obtain ⟨T22, h22, X22, e22, W22, st22⟩ := stC X20 hx hZ e20q Ar21 (j := (4 : Int32)) hin21  (g := (mkF m 134 #[.val (.int vlay), .val (.int vend), .val (.int vsc), .val (.long vbits), .second, .val (.int zz), .val (.int az), .val (.int pp), .val (.int ff), .val (.int (Int32.ofNat ne)), .unset, .unset, .unset, .unset, .unset, .unset, .unset] [(.int (own_ch (4 : Int32) pp zz az ff vbits)), (.int (4 : Int32)), (.ref b7), (.ref b7)])) rfl rfl (hb hby at_134)
  have V22 : Arv Z h22 b7 k7 .char (44 : Int32) (own_fill (own_f pp zz az ff vbits) 5) (.int (0 : Int32)) := own_arv_eq (own_fill_set (f := (own_f pp zz az ff vbits)) (k := 4) (v := (own_f pp zz az ff vbits) 4) (by decide) rfl rfl) (Arv.set Ar21 q21 S21 NN21 HH21 GG21 (fits_nar_char _) W22 4 rfl (by rw [own_fill_len]; decide))
  have Z22 : n0 ≤ h22.size := Nat.le_trans Z19 (Keep.of_wr W22).1
  have N22 := Fr.snoc X22 N20 g_b7
  have K22 : Keep h0 h22 [] := K19.wr W22 (Or.inr sz_b7)
  obtain ⟨_, _, ⟨T23, L23, k23, n23⟩, -, X23, ⟨Lc23, hQ23, l23, y23, z23⟩, st23⟩ := Jvm.LawKit.callS X22 hx (y := (⟨"com/example/paniere/paniere/DigitsInTwoLongsPinLaw", "ch", "(IIIZIJ)C"⟩ : MethodName)) hown (mvT hZ (hw _ (List.mem_of_getElem? (i := 2) rfl))) (mvT hZ (hw _ (List.mem_of_getElem? (i := 3) rfl))) (mvT hZ (hw _ (List.mem_of_getElem? (i := 4) rfl))) (mvT hZ (hw _ (List.mem_of_getElem? (i := 5) rfl))) (by decide) (backOf (W := 3) (rm1 l Z a0 hw [] (5 : Int32) pp zz az ff vbits  h22 n0 Z22 ) hZ (hw _ (List.mem_of_getElem? (i := 5) rfl)) (hw _ (List.mem_of_getElem? (i := 4) rfl)) (by decide) (by decide)) (g := (mkF m 147 #[.val (.int vlay), .val (.int vend), .val (.int vsc), .val (.long vbits), .second, .val (.int zz), .val (.int az), .val (.int pp), .val (.int ff), .val (.int (Int32.ofNat ne)), .unset, .unset, .unset, .unset, .unset, .unset, .unset] [(.long vbits), (.int ff), (.int az), (.int zz), (.int pp), (.int (5 : Int32)), (.int (5 : Int32)), (.ref b7), (.ref b7)])) rfl (by rw [hml]; rfl) (argsL := [(.int (5 : Int32)), (.int pp), (.int zz), (.int az), (.int ff), (.long vbits)]) (rest := [(.int (5 : Int32)), (.ref b7), (.ref b7)]) (lenOf pd_4 rfl) rfl (by show 2 * 0 + _ ≤ _; exact Nat.le_of_eq rfl) (hb hby at_147) (fun _ _ => ⟨rfl, e22, (by decide : 1 + 0 ≤ _), (by decide : 44 + 0 ≤ _)⟩)
  dsimp only [Pt.U, Pt.locs, Pt.cells, Pt.slots] at X23 l23 y23 z23 st23 hQ23
  obtain rfl : k23 = 1 := y23; obtain rfl : n23 = 44 := z23
  obtain ⟨rfl, N23q, e23q⟩ := hQ23
  have N23 : Fr n0 L23 := Eq.mpr (congrArg (Fr n0) l23) (Fr.app N22 N23q)
  obtain ⟨cl24, Ar24, q24, S24, NN24, HH24, GG24⟩ := id V22
  have hin24 : ¬ ((5 : Int32) < 0 ∨ cl24.slots.size ≤ ((5 : Int32)).toNatClampNeg) := inb_of S24 ⟨by decide, by decide⟩
  obtain ⟨T25, h25, X25, e25, W25, st25⟩ := stC X23 hx hZ e23q Ar24 (j := (5 : Int32)) hin24  (g := (mkF m 150 #[.val (.int vlay), .val (.int vend), .val (.int vsc), .val (.long vbits), .second, .val (.int zz), .val (.int az), .val (.int pp), .val (.int ff), .val (.int (Int32.ofNat ne)), .unset, .unset, .unset, .unset, .unset, .unset, .unset] [(.int (own_ch (5 : Int32) pp zz az ff vbits)), (.int (5 : Int32)), (.ref b7), (.ref b7)])) rfl rfl (hb hby at_150)
  have V25 : Arv Z h25 b7 k7 .char (44 : Int32) (own_fill (own_f pp zz az ff vbits) 6) (.int (0 : Int32)) := own_arv_eq (own_fill_set (f := (own_f pp zz az ff vbits)) (k := 5) (v := (own_f pp zz az ff vbits) 5) (by decide) rfl rfl) (Arv.set Ar24 q24 S24 NN24 HH24 GG24 (fits_nar_char _) W25 5 rfl (by rw [own_fill_len]; decide))
  have Z25 : n0 ≤ h25.size := Nat.le_trans Z22 (Keep.of_wr W25).1
  have N25 := Fr.snoc X25 N23 g_b7
  have K25 : Keep h0 h25 [] := K22.wr W25 (Or.inr sz_b7)
  obtain ⟨_, _, ⟨T26, L26, k26, n26⟩, -, X26, ⟨Lc26, hQ26, l26, y26, z26⟩, st26⟩ := Jvm.LawKit.callS X25 hx (y := (⟨"com/example/paniere/paniere/DigitsInTwoLongsPinLaw", "ch", "(IIIZIJ)C"⟩ : MethodName)) hown (mvT hZ (hw _ (List.mem_of_getElem? (i := 2) rfl))) (mvT hZ (hw _ (List.mem_of_getElem? (i := 3) rfl))) (mvT hZ (hw _ (List.mem_of_getElem? (i := 4) rfl))) (mvT hZ (hw _ (List.mem_of_getElem? (i := 5) rfl))) (by decide) (backOf (W := 3) (rm1 l Z a0 hw [] (6 : Int32) pp zz az ff vbits  h25 n0 Z25 ) hZ (hw _ (List.mem_of_getElem? (i := 5) rfl)) (hw _ (List.mem_of_getElem? (i := 4) rfl)) (by decide) (by decide)) (g := (mkF m 165 #[.val (.int vlay), .val (.int vend), .val (.int vsc), .val (.long vbits), .second, .val (.int zz), .val (.int az), .val (.int pp), .val (.int ff), .val (.int (Int32.ofNat ne)), .unset, .unset, .unset, .unset, .unset, .unset, .unset] [(.long vbits), (.int ff), (.int az), (.int zz), (.int pp), (.int (6 : Int32)), (.int (6 : Int32)), (.ref b7), (.ref b7)])) rfl (by rw [hml]; rfl) (argsL := [(.int (6 : Int32)), (.int pp), (.int zz), (.int az), (.int ff), (.long vbits)]) (rest := [(.int (6 : Int32)), (.ref b7), (.ref b7)]) (lenOf pd_4 rfl) rfl (by show 2 * 0 + _ ≤ _; exact Nat.le_of_eq rfl) (hb hby at_165) (fun _ _ => ⟨rfl, e25, (by decide : 1 + 0 ≤ _), (by decide : 44 + 0 ≤ _)⟩)
  dsimp only [Pt.U, Pt.locs, Pt.cells, Pt.slots] at X26 l26 y26 z26 st26 hQ26
  obtain rfl : k26 = 1 := y26; obtain rfl : n26 = 44 := z26
  obtain ⟨rfl, N26q, e26q⟩ := hQ26
  have N26 : Fr n0 L26 := Eq.mpr (congrArg (Fr n0) l26) (Fr.app N25 N26q)
  obtain ⟨cl27, Ar27, q27, S27, NN27, HH27, GG27⟩ := id V25
  have hin27 : ¬ ((6 : Int32) < 0 ∨ cl27.slots.size ≤ ((6 : Int32)).toNatClampNeg) := inb_of S27 ⟨by decide, by decide⟩
  obtain ⟨T28, h28, X28, e28, W28, st28⟩ := stC X26 hx hZ e26q Ar27 (j := (6 : Int32)) hin27  (g := (mkF m 168 #[.val (.int vlay), .val (.int vend), .val (.int vsc), .val (.long vbits), .second, .val (.int zz), .val (.int az), .val (.int pp), .val (.int ff), .val (.int (Int32.ofNat ne)), .unset, .unset, .unset, .unset, .unset, .unset, .unset] [(.int (own_ch (6 : Int32) pp zz az ff vbits)), (.int (6 : Int32)), (.ref b7), (.ref b7)])) rfl rfl (hb hby at_168)
  have V28 : Arv Z h28 b7 k7 .char (44 : Int32) (own_fill (own_f pp zz az ff vbits) 7) (.int (0 : Int32)) := own_arv_eq (own_fill_set (f := (own_f pp zz az ff vbits)) (k := 6) (v := (own_f pp zz az ff vbits) 6) (by decide) rfl rfl) (Arv.set Ar27 q27 S27 NN27 HH27 GG27 (fits_nar_char _) W28 6 rfl (by rw [own_fill_len]; decide))
  have Z28 : n0 ≤ h28.size := Nat.le_trans Z25 (Keep.of_wr W28).1
  have N28 := Fr.snoc X28 N26 g_b7
  have K28 : Keep h0 h28 [] := K25.wr W28 (Or.inr sz_b7)
  obtain ⟨_, _, ⟨T29, L29, k29, n29⟩, -, X29, ⟨Lc29, hQ29, l29, y29, z29⟩, st29⟩ := Jvm.LawKit.callS X28 hx (y := (⟨"com/example/paniere/paniere/DigitsInTwoLongsPinLaw", "ch", "(IIIZIJ)C"⟩ : MethodName)) hown (mvT hZ (hw _ (List.mem_of_getElem? (i := 2) rfl))) (mvT hZ (hw _ (List.mem_of_getElem? (i := 3) rfl))) (mvT hZ (hw _ (List.mem_of_getElem? (i := 4) rfl))) (mvT hZ (hw _ (List.mem_of_getElem? (i := 5) rfl))) (by decide) (backOf (W := 3) (rm1 l Z a0 hw [] (7 : Int32) pp zz az ff vbits  h28 n0 Z28 ) hZ (hw _ (List.mem_of_getElem? (i := 5) rfl)) (hw _ (List.mem_of_getElem? (i := 4) rfl)) (by decide) (by decide)) (g := (mkF m 183 #[.val (.int vlay), .val (.int vend), .val (.int vsc), .val (.long vbits), .second, .val (.int zz), .val (.int az), .val (.int pp), .val (.int ff), .val (.int (Int32.ofNat ne)), .unset, .unset, .unset, .unset, .unset, .unset, .unset] [(.long vbits), (.int ff), (.int az), (.int zz), (.int pp), (.int (7 : Int32)), (.int (7 : Int32)), (.ref b7), (.ref b7)])) rfl (by rw [hml]; rfl) (argsL := [(.int (7 : Int32)), (.int pp), (.int zz), (.int az), (.int ff), (.long vbits)]) (rest := [(.int (7 : Int32)), (.ref b7), (.ref b7)]) (lenOf pd_4 rfl) rfl (by show 2 * 0 + _ ≤ _; exact Nat.le_of_eq rfl) (hb hby at_183) (fun _ _ => ⟨rfl, e28, (by decide : 1 + 0 ≤ _), (by decide : 44 + 0 ≤ _)⟩)
  dsimp only [Pt.U, Pt.locs, Pt.cells, Pt.slots] at X29 l29 y29 z29 st29 hQ29
  obtain rfl : k29 = 1 := y29; obtain rfl : n29 = 44 := z29
  obtain ⟨rfl, N29q, e29q⟩ := hQ29
  have N29 : Fr n0 L29 := Eq.mpr (congrArg (Fr n0) l29) (Fr.app N28 N29q)
  obtain ⟨cl30, Ar30, q30, S30, NN30, HH30, GG30⟩ := id V28
  have hin30 : ¬ ((7 : Int32) < 0 ∨ cl30.slots.size ≤ ((7 : Int32)).toNatClampNeg) := inb_of S30 ⟨by decide, by decide⟩
  obtain ⟨T31, h31, X31, e31, W31, st31⟩ := stC X29 hx hZ e29q Ar30 (j := (7 : Int32)) hin30  (g := (mkF m 186 #[.val (.int vlay), .val (.int vend), .val (.int vsc), .val (.long vbits), .second, .val (.int zz), .val (.int az), .val (.int pp), .val (.int ff), .val (.int (Int32.ofNat ne)), .unset, .unset, .unset, .unset, .unset, .unset, .unset] [(.int (own_ch (7 : Int32) pp zz az ff vbits)), (.int (7 : Int32)), (.ref b7), (.ref b7)])) rfl rfl (hb hby at_186)
  have V31 : Arv Z h31 b7 k7 .char (44 : Int32) (own_fill (own_f pp zz az ff vbits) 8) (.int (0 : Int32)) := own_arv_eq (own_fill_set (f := (own_f pp zz az ff vbits)) (k := 7) (v := (own_f pp zz az ff vbits) 7) (by decide) rfl rfl) (Arv.set Ar30 q30 S30 NN30 HH30 GG30 (fits_nar_char _) W31 7 rfl (by rw [own_fill_len]; decide))
  have Z31 : n0 ≤ h31.size := Nat.le_trans Z28 (Keep.of_wr W31).1
  have N31 := Fr.snoc X31 N29 g_b7
  have K31 : Keep h0 h31 [] := K28.wr W31 (Or.inr sz_b7)
  obtain ⟨_, _, ⟨T32, L32, k32, n32⟩, -, X32, ⟨Lc32, hQ32, l32, y32, z32⟩, st32⟩ := Jvm.LawKit.callS X31 hx (y := (⟨"com/example/paniere/paniere/DigitsInTwoLongsPinLaw", "ch", "(IIIZIJ)C"⟩ : MethodName)) hown (mvT hZ (hw _ (List.mem_of_getElem? (i := 2) rfl))) (mvT hZ (hw _ (List.mem_of_getElem? (i := 3) rfl))) (mvT hZ (hw _ (List.mem_of_getElem? (i := 4) rfl))) (mvT hZ (hw _ (List.mem_of_getElem? (i := 5) rfl))) (by decide) (backOf (W := 3) (rm1 l Z a0 hw [] (8 : Int32) pp zz az ff vbits  h31 n0 Z31 ) hZ (hw _ (List.mem_of_getElem? (i := 5) rfl)) (hw _ (List.mem_of_getElem? (i := 4) rfl)) (by decide) (by decide)) (g := (mkF m 201 #[.val (.int vlay), .val (.int vend), .val (.int vsc), .val (.long vbits), .second, .val (.int zz), .val (.int az), .val (.int pp), .val (.int ff), .val (.int (Int32.ofNat ne)), .unset, .unset, .unset, .unset, .unset, .unset, .unset] [(.long vbits), (.int ff), (.int az), (.int zz), (.int pp), (.int (8 : Int32)), (.int (8 : Int32)), (.ref b7), (.ref b7)])) rfl (by rw [hml]; rfl) (argsL := [(.int (8 : Int32)), (.int pp), (.int zz), (.int az), (.int ff), (.long vbits)]) (rest := [(.int (8 : Int32)), (.ref b7), (.ref b7)]) (lenOf pd_4 rfl) rfl (by show 2 * 0 + _ ≤ _; exact Nat.le_of_eq rfl) (hb hby at_201) (fun _ _ => ⟨rfl, e31, (by decide : 1 + 0 ≤ _), (by decide : 44 + 0 ≤ _)⟩)
  dsimp only [Pt.U, Pt.locs, Pt.cells, Pt.slots] at X32 l32 y32 z32 st32 hQ32
  obtain rfl : k32 = 1 := y32; obtain rfl : n32 = 44 := z32
  obtain ⟨rfl, N32q, e32q⟩ := hQ32
  have N32 : Fr n0 L32 := Eq.mpr (congrArg (Fr n0) l32) (Fr.app N31 N32q)
  obtain ⟨cl33, Ar33, q33, S33, NN33, HH33, GG33⟩ := id V31
  have hin33 : ¬ ((8 : Int32) < 0 ∨ cl33.slots.size ≤ ((8 : Int32)).toNatClampNeg) := inb_of S33 ⟨by decide, by decide⟩
  obtain ⟨T34, h34, X34, e34, W34, st34⟩ := stC X32 hx hZ e32q Ar33 (j := (8 : Int32)) hin33  (g := (mkF m 204 #[.val (.int vlay), .val (.int vend), .val (.int vsc), .val (.long vbits), .second, .val (.int zz), .val (.int az), .val (.int pp), .val (.int ff), .val (.int (Int32.ofNat ne)), .unset, .unset, .unset, .unset, .unset, .unset, .unset] [(.int (own_ch (8 : Int32) pp zz az ff vbits)), (.int (8 : Int32)), (.ref b7), (.ref b7)])) rfl rfl (hb hby at_204)
  have V34 : Arv Z h34 b7 k7 .char (44 : Int32) (own_fill (own_f pp zz az ff vbits) 9) (.int (0 : Int32)) := own_arv_eq (own_fill_set (f := (own_f pp zz az ff vbits)) (k := 8) (v := (own_f pp zz az ff vbits) 8) (by decide) rfl rfl) (Arv.set Ar33 q33 S33 NN33 HH33 GG33 (fits_nar_char _) W34 8 rfl (by rw [own_fill_len]; decide))
  have Z34 : n0 ≤ h34.size := Nat.le_trans Z31 (Keep.of_wr W34).1
  have N34 := Fr.snoc X34 N32 g_b7
  have K34 : Keep h0 h34 [] := K31.wr W34 (Or.inr sz_b7)
  obtain ⟨_, _, ⟨T35, L35, k35, n35⟩, -, X35, ⟨Lc35, hQ35, l35, y35, z35⟩, st35⟩ := Jvm.LawKit.callS X34 hx (y := (⟨"com/example/paniere/paniere/DigitsInTwoLongsPinLaw", "ch", "(IIIZIJ)C"⟩ : MethodName)) hown (mvT hZ (hw _ (List.mem_of_getElem? (i := 2) rfl))) (mvT hZ (hw _ (List.mem_of_getElem? (i := 3) rfl))) (mvT hZ (hw _ (List.mem_of_getElem? (i := 4) rfl))) (mvT hZ (hw _ (List.mem_of_getElem? (i := 5) rfl))) (by decide) (backOf (W := 3) (rm1 l Z a0 hw [] (9 : Int32) pp zz az ff vbits  h34 n0 Z34 ) hZ (hw _ (List.mem_of_getElem? (i := 5) rfl)) (hw _ (List.mem_of_getElem? (i := 4) rfl)) (by decide) (by decide)) (g := (mkF m 219 #[.val (.int vlay), .val (.int vend), .val (.int vsc), .val (.long vbits), .second, .val (.int zz), .val (.int az), .val (.int pp), .val (.int ff), .val (.int (Int32.ofNat ne)), .unset, .unset, .unset, .unset, .unset, .unset, .unset] [(.long vbits), (.int ff), (.int az), (.int zz), (.int pp), (.int (9 : Int32)), (.int (9 : Int32)), (.ref b7), (.ref b7)])) rfl (by rw [hml]; rfl) (argsL := [(.int (9 : Int32)), (.int pp), (.int zz), (.int az), (.int ff), (.long vbits)]) (rest := [(.int (9 : Int32)), (.ref b7), (.ref b7)]) (lenOf pd_4 rfl) rfl (by show 2 * 0 + _ ≤ _; exact Nat.le_of_eq rfl) (hb hby at_219) (fun _ _ => ⟨rfl, e34, (by decide : 1 + 0 ≤ _), (by decide : 44 + 0 ≤ _)⟩)
  dsimp only [Pt.U, Pt.locs, Pt.cells, Pt.slots] at X35 l35 y35 z35 st35 hQ35
  obtain rfl : k35 = 1 := y35; obtain rfl : n35 = 44 := z35
  obtain ⟨rfl, N35q, e35q⟩ := hQ35
  have N35 : Fr n0 L35 := Eq.mpr (congrArg (Fr n0) l35) (Fr.app N34 N35q)
  obtain ⟨cl36, Ar36, q36, S36, NN36, HH36, GG36⟩ := id V34
  have hin36 : ¬ ((9 : Int32) < 0 ∨ cl36.slots.size ≤ ((9 : Int32)).toNatClampNeg) := inb_of S36 ⟨by decide, by decide⟩
  obtain ⟨T37, h37, X37, e37, W37, st37⟩ := stC X35 hx hZ e35q Ar36 (j := (9 : Int32)) hin36  (g := (mkF m 222 #[.val (.int vlay), .val (.int vend), .val (.int vsc), .val (.long vbits), .second, .val (.int zz), .val (.int az), .val (.int pp), .val (.int ff), .val (.int (Int32.ofNat ne)), .unset, .unset, .unset, .unset, .unset, .unset, .unset] [(.int (own_ch (9 : Int32) pp zz az ff vbits)), (.int (9 : Int32)), (.ref b7), (.ref b7)])) rfl rfl (hb hby at_222)
  have V37 : Arv Z h37 b7 k7 .char (44 : Int32) (own_fill (own_f pp zz az ff vbits) 10) (.int (0 : Int32)) := own_arv_eq (own_fill_set (f := (own_f pp zz az ff vbits)) (k := 9) (v := (own_f pp zz az ff vbits) 9) (by decide) rfl rfl) (Arv.set Ar36 q36 S36 NN36 HH36 GG36 (fits_nar_char _) W37 9 rfl (by rw [own_fill_len]; decide))
  have Z37 : n0 ≤ h37.size := Nat.le_trans Z34 (Keep.of_wr W37).1
  have N37 := Fr.snoc X37 N35 g_b7
  have K37 : Keep h0 h37 [] := K34.wr W37 (Or.inr sz_b7)
  obtain ⟨_, _, ⟨T38, L38, k38, n38⟩, -, X38, ⟨Lc38, hQ38, l38, y38, z38⟩, st38⟩ := Jvm.LawKit.callS X37 hx (y := (⟨"com/example/paniere/paniere/DigitsInTwoLongsPinLaw", "ch", "(IIIZIJ)C"⟩ : MethodName)) hown (mvT hZ (hw _ (List.mem_of_getElem? (i := 2) rfl))) (mvT hZ (hw _ (List.mem_of_getElem? (i := 3) rfl))) (mvT hZ (hw _ (List.mem_of_getElem? (i := 4) rfl))) (mvT hZ (hw _ (List.mem_of_getElem? (i := 5) rfl))) (by decide) (backOf (W := 3) (rm1 l Z a0 hw [] (10 : Int32) pp zz az ff vbits  h37 n0 Z37 ) hZ (hw _ (List.mem_of_getElem? (i := 5) rfl)) (hw _ (List.mem_of_getElem? (i := 4) rfl)) (by decide) (by decide)) (g := (mkF m 237 #[.val (.int vlay), .val (.int vend), .val (.int vsc), .val (.long vbits), .second, .val (.int zz), .val (.int az), .val (.int pp), .val (.int ff), .val (.int (Int32.ofNat ne)), .unset, .unset, .unset, .unset, .unset, .unset, .unset] [(.long vbits), (.int ff), (.int az), (.int zz), (.int pp), (.int (10 : Int32)), (.int (10 : Int32)), (.ref b7), (.ref b7)])) rfl (by rw [hml]; rfl) (argsL := [(.int (10 : Int32)), (.int pp), (.int zz), (.int az), (.int ff), (.long vbits)]) (rest := [(.int (10 : Int32)), (.ref b7), (.ref b7)]) (lenOf pd_4 rfl) rfl (by show 2 * 0 + _ ≤ _; exact Nat.le_of_eq rfl) (hb hby at_237) (fun _ _ => ⟨rfl, e37, (by decide : 1 + 0 ≤ _), (by decide : 44 + 0 ≤ _)⟩)
  dsimp only [Pt.U, Pt.locs, Pt.cells, Pt.slots] at X38 l38 y38 z38 st38 hQ38
  obtain rfl : k38 = 1 := y38; obtain rfl : n38 = 44 := z38
  obtain ⟨rfl, N38q, e38q⟩ := hQ38
  have N38 : Fr n0 L38 := Eq.mpr (congrArg (Fr n0) l38) (Fr.app N37 N38q)
  obtain ⟨cl39, Ar39, q39, S39, NN39, HH39, GG39⟩ := id V37
  have hin39 : ¬ ((10 : Int32) < 0 ∨ cl39.slots.size ≤ ((10 : Int32)).toNatClampNeg) := inb_of S39 ⟨by decide, by decide⟩
  obtain ⟨T40, h40, X40, e40, W40, st40⟩ := stC X38 hx hZ e38q Ar39 (j := (10 : Int32)) hin39  (g := (mkF m 240 #[.val (.int vlay), .val (.int vend), .val (.int vsc), .val (.long vbits), .second, .val (.int zz), .val (.int az), .val (.int pp), .val (.int ff), .val (.int (Int32.ofNat ne)), .unset, .unset, .unset, .unset, .unset, .unset, .unset] [(.int (own_ch (10 : Int32) pp zz az ff vbits)), (.int (10 : Int32)), (.ref b7), (.ref b7)])) rfl rfl (hb hby at_240)
  have V40 : Arv Z h40 b7 k7 .char (44 : Int32) (own_fill (own_f pp zz az ff vbits) 11) (.int (0 : Int32)) := own_arv_eq (own_fill_set (f := (own_f pp zz az ff vbits)) (k := 10) (v := (own_f pp zz az ff vbits) 10) (by decide) rfl rfl) (Arv.set Ar39 q39 S39 NN39 HH39 GG39 (fits_nar_char _) W40 10 rfl (by rw [own_fill_len]; decide))
  have Z40 : n0 ≤ h40.size := Nat.le_trans Z37 (Keep.of_wr W40).1
  have N40 := Fr.snoc X40 N38 g_b7
  have K40 : Keep h0 h40 [] := K37.wr W40 (Or.inr sz_b7)
  obtain ⟨_, _, ⟨T41, L41, k41, n41⟩, -, X41, ⟨Lc41, hQ41, l41, y41, z41⟩, st41⟩ := Jvm.LawKit.callS X40 hx (y := (⟨"com/example/paniere/paniere/DigitsInTwoLongsPinLaw", "ch", "(IIIZIJ)C"⟩ : MethodName)) hown (mvT hZ (hw _ (List.mem_of_getElem? (i := 2) rfl))) (mvT hZ (hw _ (List.mem_of_getElem? (i := 3) rfl))) (mvT hZ (hw _ (List.mem_of_getElem? (i := 4) rfl))) (mvT hZ (hw _ (List.mem_of_getElem? (i := 5) rfl))) (by decide) (backOf (W := 3) (rm1 l Z a0 hw [] (11 : Int32) pp zz az ff vbits  h40 n0 Z40 ) hZ (hw _ (List.mem_of_getElem? (i := 5) rfl)) (hw _ (List.mem_of_getElem? (i := 4) rfl)) (by decide) (by decide)) (g := (mkF m 255 #[.val (.int vlay), .val (.int vend), .val (.int vsc), .val (.long vbits), .second, .val (.int zz), .val (.int az), .val (.int pp), .val (.int ff), .val (.int (Int32.ofNat ne)), .unset, .unset, .unset, .unset, .unset, .unset, .unset] [(.long vbits), (.int ff), (.int az), (.int zz), (.int pp), (.int (11 : Int32)), (.int (11 : Int32)), (.ref b7), (.ref b7)])) rfl (by rw [hml]; rfl) (argsL := [(.int (11 : Int32)), (.int pp), (.int zz), (.int az), (.int ff), (.long vbits)]) (rest := [(.int (11 : Int32)), (.ref b7), (.ref b7)]) (lenOf pd_4 rfl) rfl (by show 2 * 0 + _ ≤ _; exact Nat.le_of_eq rfl) (hb hby at_255) (fun _ _ => ⟨rfl, e40, (by decide : 1 + 0 ≤ _), (by decide : 44 + 0 ≤ _)⟩)
  dsimp only [Pt.U, Pt.locs, Pt.cells, Pt.slots] at X41 l41 y41 z41 st41 hQ41
  obtain rfl : k41 = 1 := y41; obtain rfl : n41 = 44 := z41
  obtain ⟨rfl, N41q, e41q⟩ := hQ41
  have N41 : Fr n0 L41 := Eq.mpr (congrArg (Fr n0) l41) (Fr.app N40 N41q)
  obtain ⟨cl42, Ar42, q42, S42, NN42, HH42, GG42⟩ := id V40
  have hin42 : ¬ ((11 : Int32) < 0 ∨ cl42.slots.size ≤ ((11 : Int32)).toNatClampNeg) := inb_of S42 ⟨by decide, by decide⟩
  obtain ⟨T43, h43, X43, e43, W43, st43⟩ := stC X41 hx hZ e41q Ar42 (j := (11 : Int32)) hin42  (g := (mkF m 258 #[.val (.int vlay), .val (.int vend), .val (.int vsc), .val (.long vbits), .second, .val (.int zz), .val (.int az), .val (.int pp), .val (.int ff), .val (.int (Int32.ofNat ne)), .unset, .unset, .unset, .unset, .unset, .unset, .unset] [(.int (own_ch (11 : Int32) pp zz az ff vbits)), (.int (11 : Int32)), (.ref b7), (.ref b7)])) rfl rfl (hb hby at_258)
  have V43 : Arv Z h43 b7 k7 .char (44 : Int32) (own_fill (own_f pp zz az ff vbits) 12) (.int (0 : Int32)) := own_arv_eq (own_fill_set (f := (own_f pp zz az ff vbits)) (k := 11) (v := (own_f pp zz az ff vbits) 11) (by decide) rfl rfl) (Arv.set Ar42 q42 S42 NN42 HH42 GG42 (fits_nar_char _) W43 11 rfl (by rw [own_fill_len]; decide))
  have Z43 : n0 ≤ h43.size := Nat.le_trans Z40 (Keep.of_wr W43).1
  have N43 := Fr.snoc X43 N41 g_b7
  have K43 : Keep h0 h43 [] := K40.wr W43 (Or.inr sz_b7)
  obtain ⟨_, _, ⟨T44, L44, k44, n44⟩, -, X44, ⟨Lc44, hQ44, l44, y44, z44⟩, st44⟩ := Jvm.LawKit.callS X43 hx (y := (⟨"com/example/paniere/paniere/DigitsInTwoLongsPinLaw", "ch", "(IIIZIJ)C"⟩ : MethodName)) hown (mvT hZ (hw _ (List.mem_of_getElem? (i := 2) rfl))) (mvT hZ (hw _ (List.mem_of_getElem? (i := 3) rfl))) (mvT hZ (hw _ (List.mem_of_getElem? (i := 4) rfl))) (mvT hZ (hw _ (List.mem_of_getElem? (i := 5) rfl))) (by decide) (backOf (W := 3) (rm1 l Z a0 hw [] (12 : Int32) pp zz az ff vbits  h43 n0 Z43 ) hZ (hw _ (List.mem_of_getElem? (i := 5) rfl)) (hw _ (List.mem_of_getElem? (i := 4) rfl)) (by decide) (by decide)) (g := (mkF m 273 #[.val (.int vlay), .val (.int vend), .val (.int vsc), .val (.long vbits), .second, .val (.int zz), .val (.int az), .val (.int pp), .val (.int ff), .val (.int (Int32.ofNat ne)), .unset, .unset, .unset, .unset, .unset, .unset, .unset] [(.long vbits), (.int ff), (.int az), (.int zz), (.int pp), (.int (12 : Int32)), (.int (12 : Int32)), (.ref b7), (.ref b7)])) rfl (by rw [hml]; rfl) (argsL := [(.int (12 : Int32)), (.int pp), (.int zz), (.int az), (.int ff), (.long vbits)]) (rest := [(.int (12 : Int32)), (.ref b7), (.ref b7)]) (lenOf pd_4 rfl) rfl (by show 2 * 0 + _ ≤ _; exact Nat.le_of_eq rfl) (hb hby at_273) (fun _ _ => ⟨rfl, e43, (by decide : 1 + 0 ≤ _), (by decide : 44 + 0 ≤ _)⟩)
  dsimp only [Pt.U, Pt.locs, Pt.cells, Pt.slots] at X44 l44 y44 z44 st44 hQ44
  obtain rfl : k44 = 1 := y44; obtain rfl : n44 = 44 := z44
  obtain ⟨rfl, N44q, e44q⟩ := hQ44
  have N44 : Fr n0 L44 := Eq.mpr (congrArg (Fr n0) l44) (Fr.app N43 N44q)
  obtain ⟨cl45, Ar45, q45, S45, NN45, HH45, GG45⟩ := id V43
  have hin45 : ¬ ((12 : Int32) < 0 ∨ cl45.slots.size ≤ ((12 : Int32)).toNatClampNeg) := inb_of S45 ⟨by decide, by decide⟩
  obtain ⟨T46, h46, X46, e46, W46, st46⟩ := stC X44 hx hZ e44q Ar45 (j := (12 : Int32)) hin45  (g := (mkF m 276 #[.val (.int vlay), .val (.int vend), .val (.int vsc), .val (.long vbits), .second, .val (.int zz), .val (.int az), .val (.int pp), .val (.int ff), .val (.int (Int32.ofNat ne)), .unset, .unset, .unset, .unset, .unset, .unset, .unset] [(.int (own_ch (12 : Int32) pp zz az ff vbits)), (.int (12 : Int32)), (.ref b7), (.ref b7)])) rfl rfl (hb hby at_276)
  have V46 : Arv Z h46 b7 k7 .char (44 : Int32) (own_fill (own_f pp zz az ff vbits) 13) (.int (0 : Int32)) := own_arv_eq (own_fill_set (f := (own_f pp zz az ff vbits)) (k := 12) (v := (own_f pp zz az ff vbits) 12) (by decide) rfl rfl) (Arv.set Ar45 q45 S45 NN45 HH45 GG45 (fits_nar_char _) W46 12 rfl (by rw [own_fill_len]; decide))
  have Z46 : n0 ≤ h46.size := Nat.le_trans Z43 (Keep.of_wr W46).1
  have N46 := Fr.snoc X46 N44 g_b7
  have K46 : Keep h0 h46 [] := K43.wr W46 (Or.inr sz_b7)
  obtain ⟨_, _, ⟨T47, L47, k47, n47⟩, -, X47, ⟨Lc47, hQ47, l47, y47, z47⟩, st47⟩ := Jvm.LawKit.callS X46 hx (y := (⟨"com/example/paniere/paniere/DigitsInTwoLongsPinLaw", "ch", "(IIIZIJ)C"⟩ : MethodName)) hown (mvT hZ (hw _ (List.mem_of_getElem? (i := 2) rfl))) (mvT hZ (hw _ (List.mem_of_getElem? (i := 3) rfl))) (mvT hZ (hw _ (List.mem_of_getElem? (i := 4) rfl))) (mvT hZ (hw _ (List.mem_of_getElem? (i := 5) rfl))) (by decide) (backOf (W := 3) (rm1 l Z a0 hw [] (13 : Int32) pp zz az ff vbits  h46 n0 Z46 ) hZ (hw _ (List.mem_of_getElem? (i := 5) rfl)) (hw _ (List.mem_of_getElem? (i := 4) rfl)) (by decide) (by decide)) (g := (mkF m 291 #[.val (.int vlay), .val (.int vend), .val (.int vsc), .val (.long vbits), .second, .val (.int zz), .val (.int az), .val (.int pp), .val (.int ff), .val (.int (Int32.ofNat ne)), .unset, .unset, .unset, .unset, .unset, .unset, .unset] [(.long vbits), (.int ff), (.int az), (.int zz), (.int pp), (.int (13 : Int32)), (.int (13 : Int32)), (.ref b7), (.ref b7)])) rfl (by rw [hml]; rfl) (argsL := [(.int (13 : Int32)), (.int pp), (.int zz), (.int az), (.int ff), (.long vbits)]) (rest := [(.int (13 : Int32)), (.ref b7), (.ref b7)]) (lenOf pd_4 rfl) rfl (by show 2 * 0 + _ ≤ _; exact Nat.le_of_eq rfl) (hb hby at_291) (fun _ _ => ⟨rfl, e46, (by decide : 1 + 0 ≤ _), (by decide : 44 + 0 ≤ _)⟩)
  dsimp only [Pt.U, Pt.locs, Pt.cells, Pt.slots] at X47 l47 y47 z47 st47 hQ47
  obtain rfl : k47 = 1 := y47; obtain rfl : n47 = 44 := z47
  obtain ⟨rfl, N47q, e47q⟩ := hQ47
  have N47 : Fr n0 L47 := Eq.mpr (congrArg (Fr n0) l47) (Fr.app N46 N47q)
  obtain ⟨cl48, Ar48, q48, S48, NN48, HH48, GG48⟩ := id V46
  have hin48 : ¬ ((13 : Int32) < 0 ∨ cl48.slots.size ≤ ((13 : Int32)).toNatClampNeg) := inb_of S48 ⟨by decide, by decide⟩
  obtain ⟨T49, h49, X49, e49, W49, st49⟩ := stC X47 hx hZ e47q Ar48 (j := (13 : Int32)) hin48  (g := (mkF m 294 #[.val (.int vlay), .val (.int vend), .val (.int vsc), .val (.long vbits), .second, .val (.int zz), .val (.int az), .val (.int pp), .val (.int ff), .val (.int (Int32.ofNat ne)), .unset, .unset, .unset, .unset, .unset, .unset, .unset] [(.int (own_ch (13 : Int32) pp zz az ff vbits)), (.int (13 : Int32)), (.ref b7), (.ref b7)])) rfl rfl (hb hby at_294)
  have V49 : Arv Z h49 b7 k7 .char (44 : Int32) (own_fill (own_f pp zz az ff vbits) 14) (.int (0 : Int32)) := own_arv_eq (own_fill_set (f := (own_f pp zz az ff vbits)) (k := 13) (v := (own_f pp zz az ff vbits) 13) (by decide) rfl rfl) (Arv.set Ar48 q48 S48 NN48 HH48 GG48 (fits_nar_char _) W49 13 rfl (by rw [own_fill_len]; decide))
  have Z49 : n0 ≤ h49.size := Nat.le_trans Z46 (Keep.of_wr W49).1
  have N49 := Fr.snoc X49 N47 g_b7
  have K49 : Keep h0 h49 [] := K46.wr W49 (Or.inr sz_b7)
  obtain ⟨_, _, ⟨T50, L50, k50, n50⟩, -, X50, ⟨Lc50, hQ50, l50, y50, z50⟩, st50⟩ := Jvm.LawKit.callS X49 hx (y := (⟨"com/example/paniere/paniere/DigitsInTwoLongsPinLaw", "ch", "(IIIZIJ)C"⟩ : MethodName)) hown (mvT hZ (hw _ (List.mem_of_getElem? (i := 2) rfl))) (mvT hZ (hw _ (List.mem_of_getElem? (i := 3) rfl))) (mvT hZ (hw _ (List.mem_of_getElem? (i := 4) rfl))) (mvT hZ (hw _ (List.mem_of_getElem? (i := 5) rfl))) (by decide) (backOf (W := 3) (rm1 l Z a0 hw [] (14 : Int32) pp zz az ff vbits  h49 n0 Z49 ) hZ (hw _ (List.mem_of_getElem? (i := 5) rfl)) (hw _ (List.mem_of_getElem? (i := 4) rfl)) (by decide) (by decide)) (g := (mkF m 309 #[.val (.int vlay), .val (.int vend), .val (.int vsc), .val (.long vbits), .second, .val (.int zz), .val (.int az), .val (.int pp), .val (.int ff), .val (.int (Int32.ofNat ne)), .unset, .unset, .unset, .unset, .unset, .unset, .unset] [(.long vbits), (.int ff), (.int az), (.int zz), (.int pp), (.int (14 : Int32)), (.int (14 : Int32)), (.ref b7), (.ref b7)])) rfl (by rw [hml]; rfl) (argsL := [(.int (14 : Int32)), (.int pp), (.int zz), (.int az), (.int ff), (.long vbits)]) (rest := [(.int (14 : Int32)), (.ref b7), (.ref b7)]) (lenOf pd_4 rfl) rfl (by show 2 * 0 + _ ≤ _; exact Nat.le_of_eq rfl) (hb hby at_309) (fun _ _ => ⟨rfl, e49, (by decide : 1 + 0 ≤ _), (by decide : 44 + 0 ≤ _)⟩)
  dsimp only [Pt.U, Pt.locs, Pt.cells, Pt.slots] at X50 l50 y50 z50 st50 hQ50
  obtain rfl : k50 = 1 := y50; obtain rfl : n50 = 44 := z50
  obtain ⟨rfl, N50q, e50q⟩ := hQ50
  have N50 : Fr n0 L50 := Eq.mpr (congrArg (Fr n0) l50) (Fr.app N49 N50q)
  obtain ⟨cl51, Ar51, q51, S51, NN51, HH51, GG51⟩ := id V49
  have hin51 : ¬ ((14 : Int32) < 0 ∨ cl51.slots.size ≤ ((14 : Int32)).toNatClampNeg) := inb_of S51 ⟨by decide, by decide⟩
  obtain ⟨T52, h52, X52, e52, W52, st52⟩ := stC X50 hx hZ e50q Ar51 (j := (14 : Int32)) hin51  (g := (mkF m 312 #[.val (.int vlay), .val (.int vend), .val (.int vsc), .val (.long vbits), .second, .val (.int zz), .val (.int az), .val (.int pp), .val (.int ff), .val (.int (Int32.ofNat ne)), .unset, .unset, .unset, .unset, .unset, .unset, .unset] [(.int (own_ch (14 : Int32) pp zz az ff vbits)), (.int (14 : Int32)), (.ref b7), (.ref b7)])) rfl rfl (hb hby at_312)
  have V52 : Arv Z h52 b7 k7 .char (44 : Int32) (own_fill (own_f pp zz az ff vbits) 15) (.int (0 : Int32)) := own_arv_eq (own_fill_set (f := (own_f pp zz az ff vbits)) (k := 14) (v := (own_f pp zz az ff vbits) 14) (by decide) rfl rfl) (Arv.set Ar51 q51 S51 NN51 HH51 GG51 (fits_nar_char _) W52 14 rfl (by rw [own_fill_len]; decide))
  have Z52 : n0 ≤ h52.size := Nat.le_trans Z49 (Keep.of_wr W52).1
  have N52 := Fr.snoc X52 N50 g_b7
  have K52 : Keep h0 h52 [] := K49.wr W52 (Or.inr sz_b7)
  obtain ⟨_, _, ⟨T53, L53, k53, n53⟩, -, X53, ⟨Lc53, hQ53, l53, y53, z53⟩, st53⟩ := Jvm.LawKit.callS X52 hx (y := (⟨"com/example/paniere/paniere/DigitsInTwoLongsPinLaw", "ch", "(IIIZIJ)C"⟩ : MethodName)) hown (mvT hZ (hw _ (List.mem_of_getElem? (i := 2) rfl))) (mvT hZ (hw _ (List.mem_of_getElem? (i := 3) rfl))) (mvT hZ (hw _ (List.mem_of_getElem? (i := 4) rfl))) (mvT hZ (hw _ (List.mem_of_getElem? (i := 5) rfl))) (by decide) (backOf (W := 3) (rm1 l Z a0 hw [] (15 : Int32) pp zz az ff vbits  h52 n0 Z52 ) hZ (hw _ (List.mem_of_getElem? (i := 5) rfl)) (hw _ (List.mem_of_getElem? (i := 4) rfl)) (by decide) (by decide)) (g := (mkF m 327 #[.val (.int vlay), .val (.int vend), .val (.int vsc), .val (.long vbits), .second, .val (.int zz), .val (.int az), .val (.int pp), .val (.int ff), .val (.int (Int32.ofNat ne)), .unset, .unset, .unset, .unset, .unset, .unset, .unset] [(.long vbits), (.int ff), (.int az), (.int zz), (.int pp), (.int (15 : Int32)), (.int (15 : Int32)), (.ref b7), (.ref b7)])) rfl (by rw [hml]; rfl) (argsL := [(.int (15 : Int32)), (.int pp), (.int zz), (.int az), (.int ff), (.long vbits)]) (rest := [(.int (15 : Int32)), (.ref b7), (.ref b7)]) (lenOf pd_4 rfl) rfl (by show 2 * 0 + _ ≤ _; exact Nat.le_of_eq rfl) (hb hby at_327) (fun _ _ => ⟨rfl, e52, (by decide : 1 + 0 ≤ _), (by decide : 44 + 0 ≤ _)⟩)
  dsimp only [Pt.U, Pt.locs, Pt.cells, Pt.slots] at X53 l53 y53 z53 st53 hQ53
  obtain rfl : k53 = 1 := y53; obtain rfl : n53 = 44 := z53
  obtain ⟨rfl, N53q, e53q⟩ := hQ53
  have N53 : Fr n0 L53 := Eq.mpr (congrArg (Fr n0) l53) (Fr.app N52 N53q)
  obtain ⟨cl54, Ar54, q54, S54, NN54, HH54, GG54⟩ := id V52
  have hin54 : ¬ ((15 : Int32) < 0 ∨ cl54.slots.size ≤ ((15 : Int32)).toNatClampNeg) := inb_of S54 ⟨by decide, by decide⟩
  obtain ⟨T55, h55, X55, e55, W55, st55⟩ := stC X53 hx hZ e53q Ar54 (j := (15 : Int32)) hin54  (g := (mkF m 330 #[.val (.int vlay), .val (.int vend), .val (.int vsc), .val (.long vbits), .second, .val (.int zz), .val (.int az), .val (.int pp), .val (.int ff), .val (.int (Int32.ofNat ne)), .unset, .unset, .unset, .unset, .unset, .unset, .unset] [(.int (own_ch (15 : Int32) pp zz az ff vbits)), (.int (15 : Int32)), (.ref b7), (.ref b7)])) rfl rfl (hb hby at_330)
  have V55 : Arv Z h55 b7 k7 .char (44 : Int32) (own_fill (own_f pp zz az ff vbits) 16) (.int (0 : Int32)) := own_arv_eq (own_fill_set (f := (own_f pp zz az ff vbits)) (k := 15) (v := (own_f pp zz az ff vbits) 15) (by decide) rfl rfl) (Arv.set Ar54 q54 S54 NN54 HH54 GG54 (fits_nar_char _) W55 15 rfl (by rw [own_fill_len]; decide))
  have Z55 : n0 ≤ h55.size := Nat.le_trans Z52 (Keep.of_wr W55).1
  have N55 := Fr.snoc X55 N53 g_b7
  have K55 : Keep h0 h55 [] := K52.wr W55 (Or.inr sz_b7)
  obtain ⟨_, _, ⟨T56, L56, k56, n56⟩, -, X56, ⟨Lc56, hQ56, l56, y56, z56⟩, st56⟩ := Jvm.LawKit.callS X55 hx (y := (⟨"com/example/paniere/paniere/DigitsInTwoLongsPinLaw", "ch", "(IIIZIJ)C"⟩ : MethodName)) hown (mvT hZ (hw _ (List.mem_of_getElem? (i := 2) rfl))) (mvT hZ (hw _ (List.mem_of_getElem? (i := 3) rfl))) (mvT hZ (hw _ (List.mem_of_getElem? (i := 4) rfl))) (mvT hZ (hw _ (List.mem_of_getElem? (i := 5) rfl))) (by decide) (backOf (W := 3) (rm1 l Z a0 hw [] (16 : Int32) pp zz az ff vbits  h55 n0 Z55 ) hZ (hw _ (List.mem_of_getElem? (i := 5) rfl)) (hw _ (List.mem_of_getElem? (i := 4) rfl)) (by decide) (by decide)) (g := (mkF m 345 #[.val (.int vlay), .val (.int vend), .val (.int vsc), .val (.long vbits), .second, .val (.int zz), .val (.int az), .val (.int pp), .val (.int ff), .val (.int (Int32.ofNat ne)), .unset, .unset, .unset, .unset, .unset, .unset, .unset] [(.long vbits), (.int ff), (.int az), (.int zz), (.int pp), (.int (16 : Int32)), (.int (16 : Int32)), (.ref b7), (.ref b7)])) rfl (by rw [hml]; rfl) (argsL := [(.int (16 : Int32)), (.int pp), (.int zz), (.int az), (.int ff), (.long vbits)]) (rest := [(.int (16 : Int32)), (.ref b7), (.ref b7)]) (lenOf pd_4 rfl) rfl (by show 2 * 0 + _ ≤ _; exact Nat.le_of_eq rfl) (hb hby at_345) (fun _ _ => ⟨rfl, e55, (by decide : 1 + 0 ≤ _), (by decide : 44 + 0 ≤ _)⟩)
  dsimp only [Pt.U, Pt.locs, Pt.cells, Pt.slots] at X56 l56 y56 z56 st56 hQ56
  obtain rfl : k56 = 1 := y56; obtain rfl : n56 = 44 := z56
  obtain ⟨rfl, N56q, e56q⟩ := hQ56
  have N56 : Fr n0 L56 := Eq.mpr (congrArg (Fr n0) l56) (Fr.app N55 N56q)
  obtain ⟨cl57, Ar57, q57, S57, NN57, HH57, GG57⟩ := id V55
  have hin57 : ¬ ((16 : Int32) < 0 ∨ cl57.slots.size ≤ ((16 : Int32)).toNatClampNeg) := inb_of S57 ⟨by decide, by decide⟩
  obtain ⟨T58, h58, X58, e58, W58, st58⟩ := stC X56 hx hZ e56q Ar57 (j := (16 : Int32)) hin57  (g := (mkF m 348 #[.val (.int vlay), .val (.int vend), .val (.int vsc), .val (.long vbits), .second, .val (.int zz), .val (.int az), .val (.int pp), .val (.int ff), .val (.int (Int32.ofNat ne)), .unset, .unset, .unset, .unset, .unset, .unset, .unset] [(.int (own_ch (16 : Int32) pp zz az ff vbits)), (.int (16 : Int32)), (.ref b7), (.ref b7)])) rfl rfl (hb hby at_348)
  have V58 : Arv Z h58 b7 k7 .char (44 : Int32) (own_fill (own_f pp zz az ff vbits) 17) (.int (0 : Int32)) := own_arv_eq (own_fill_set (f := (own_f pp zz az ff vbits)) (k := 16) (v := (own_f pp zz az ff vbits) 16) (by decide) rfl rfl) (Arv.set Ar57 q57 S57 NN57 HH57 GG57 (fits_nar_char _) W58 16 rfl (by rw [own_fill_len]; decide))
  have Z58 : n0 ≤ h58.size := Nat.le_trans Z55 (Keep.of_wr W58).1
  have N58 := Fr.snoc X58 N56 g_b7
  have K58 : Keep h0 h58 [] := K55.wr W58 (Or.inr sz_b7)
  obtain ⟨_, _, ⟨T59, L59, k59, n59⟩, -, X59, ⟨Lc59, hQ59, l59, y59, z59⟩, st59⟩ := Jvm.LawKit.callS X58 hx (y := (⟨"com/example/paniere/paniere/DigitsInTwoLongsPinLaw", "ch", "(IIIZIJ)C"⟩ : MethodName)) hown (mvT hZ (hw _ (List.mem_of_getElem? (i := 2) rfl))) (mvT hZ (hw _ (List.mem_of_getElem? (i := 3) rfl))) (mvT hZ (hw _ (List.mem_of_getElem? (i := 4) rfl))) (mvT hZ (hw _ (List.mem_of_getElem? (i := 5) rfl))) (by decide) (backOf (W := 3) (rm1 l Z a0 hw [] (17 : Int32) pp zz az ff vbits  h58 n0 Z58 ) hZ (hw _ (List.mem_of_getElem? (i := 5) rfl)) (hw _ (List.mem_of_getElem? (i := 4) rfl)) (by decide) (by decide)) (g := (mkF m 363 #[.val (.int vlay), .val (.int vend), .val (.int vsc), .val (.long vbits), .second, .val (.int zz), .val (.int az), .val (.int pp), .val (.int ff), .val (.int (Int32.ofNat ne)), .unset, .unset, .unset, .unset, .unset, .unset, .unset] [(.long vbits), (.int ff), (.int az), (.int zz), (.int pp), (.int (17 : Int32)), (.int (17 : Int32)), (.ref b7), (.ref b7)])) rfl (by rw [hml]; rfl) (argsL := [(.int (17 : Int32)), (.int pp), (.int zz), (.int az), (.int ff), (.long vbits)]) (rest := [(.int (17 : Int32)), (.ref b7), (.ref b7)]) (lenOf pd_4 rfl) rfl (by show 2 * 0 + _ ≤ _; exact Nat.le_of_eq rfl) (hb hby at_363) (fun _ _ => ⟨rfl, e58, (by decide : 1 + 0 ≤ _), (by decide : 44 + 0 ≤ _)⟩)
  dsimp only [Pt.U, Pt.locs, Pt.cells, Pt.slots] at X59 l59 y59 z59 st59 hQ59
  obtain rfl : k59 = 1 := y59; obtain rfl : n59 = 44 := z59
  obtain ⟨rfl, N59q, e59q⟩ := hQ59
  have N59 : Fr n0 L59 := Eq.mpr (congrArg (Fr n0) l59) (Fr.app N58 N59q)
  obtain ⟨cl60, Ar60, q60, S60, NN60, HH60, GG60⟩ := id V58
  have hin60 : ¬ ((17 : Int32) < 0 ∨ cl60.slots.size ≤ ((17 : Int32)).toNatClampNeg) := inb_of S60 ⟨by decide, by decide⟩
  obtain ⟨T61, h61, X61, e61, W61, st61⟩ := stC X59 hx hZ e59q Ar60 (j := (17 : Int32)) hin60  (g := (mkF m 366 #[.val (.int vlay), .val (.int vend), .val (.int vsc), .val (.long vbits), .second, .val (.int zz), .val (.int az), .val (.int pp), .val (.int ff), .val (.int (Int32.ofNat ne)), .unset, .unset, .unset, .unset, .unset, .unset, .unset] [(.int (own_ch (17 : Int32) pp zz az ff vbits)), (.int (17 : Int32)), (.ref b7), (.ref b7)])) rfl rfl (hb hby at_366)
  have V61 : Arv Z h61 b7 k7 .char (44 : Int32) (own_fill (own_f pp zz az ff vbits) 18) (.int (0 : Int32)) := own_arv_eq (own_fill_set (f := (own_f pp zz az ff vbits)) (k := 17) (v := (own_f pp zz az ff vbits) 17) (by decide) rfl rfl) (Arv.set Ar60 q60 S60 NN60 HH60 GG60 (fits_nar_char _) W61 17 rfl (by rw [own_fill_len]; decide))
  have Z61 : n0 ≤ h61.size := Nat.le_trans Z58 (Keep.of_wr W61).1
  have N61 := Fr.snoc X61 N59 g_b7
  have K61 : Keep h0 h61 [] := K58.wr W61 (Or.inr sz_b7)
  obtain ⟨_, _, ⟨T62, L62, k62, n62⟩, -, X62, ⟨Lc62, hQ62, l62, y62, z62⟩, st62⟩ := Jvm.LawKit.callS X61 hx (y := (⟨"com/example/paniere/paniere/DigitsInTwoLongsPinLaw", "ch", "(IIIZIJ)C"⟩ : MethodName)) hown (mvT hZ (hw _ (List.mem_of_getElem? (i := 2) rfl))) (mvT hZ (hw _ (List.mem_of_getElem? (i := 3) rfl))) (mvT hZ (hw _ (List.mem_of_getElem? (i := 4) rfl))) (mvT hZ (hw _ (List.mem_of_getElem? (i := 5) rfl))) (by decide) (backOf (W := 3) (rm1 l Z a0 hw [] (18 : Int32) pp zz az ff vbits  h61 n0 Z61 ) hZ (hw _ (List.mem_of_getElem? (i := 5) rfl)) (hw _ (List.mem_of_getElem? (i := 4) rfl)) (by decide) (by decide)) (g := (mkF m 381 #[.val (.int vlay), .val (.int vend), .val (.int vsc), .val (.long vbits), .second, .val (.int zz), .val (.int az), .val (.int pp), .val (.int ff), .val (.int (Int32.ofNat ne)), .unset, .unset, .unset, .unset, .unset, .unset, .unset] [(.long vbits), (.int ff), (.int az), (.int zz), (.int pp), (.int (18 : Int32)), (.int (18 : Int32)), (.ref b7), (.ref b7)])) rfl (by rw [hml]; rfl) (argsL := [(.int (18 : Int32)), (.int pp), (.int zz), (.int az), (.int ff), (.long vbits)]) (rest := [(.int (18 : Int32)), (.ref b7), (.ref b7)]) (lenOf pd_4 rfl) rfl (by show 2 * 0 + _ ≤ _; exact Nat.le_of_eq rfl) (hb hby at_381) (fun _ _ => ⟨rfl, e61, (by decide : 1 + 0 ≤ _), (by decide : 44 + 0 ≤ _)⟩)
  dsimp only [Pt.U, Pt.locs, Pt.cells, Pt.slots] at X62 l62 y62 z62 st62 hQ62
  obtain rfl : k62 = 1 := y62; obtain rfl : n62 = 44 := z62
  obtain ⟨rfl, N62q, e62q⟩ := hQ62
  have N62 : Fr n0 L62 := Eq.mpr (congrArg (Fr n0) l62) (Fr.app N61 N62q)
  obtain ⟨cl63, Ar63, q63, S63, NN63, HH63, GG63⟩ := id V61
  have hin63 : ¬ ((18 : Int32) < 0 ∨ cl63.slots.size ≤ ((18 : Int32)).toNatClampNeg) := inb_of S63 ⟨by decide, by decide⟩
  obtain ⟨T64, h64, X64, e64, W64, st64⟩ := stC X62 hx hZ e62q Ar63 (j := (18 : Int32)) hin63  (g := (mkF m 384 #[.val (.int vlay), .val (.int vend), .val (.int vsc), .val (.long vbits), .second, .val (.int zz), .val (.int az), .val (.int pp), .val (.int ff), .val (.int (Int32.ofNat ne)), .unset, .unset, .unset, .unset, .unset, .unset, .unset] [(.int (own_ch (18 : Int32) pp zz az ff vbits)), (.int (18 : Int32)), (.ref b7), (.ref b7)])) rfl rfl (hb hby at_384)
  have V64 : Arv Z h64 b7 k7 .char (44 : Int32) (own_fill (own_f pp zz az ff vbits) 19) (.int (0 : Int32)) := own_arv_eq (own_fill_set (f := (own_f pp zz az ff vbits)) (k := 18) (v := (own_f pp zz az ff vbits) 18) (by decide) rfl rfl) (Arv.set Ar63 q63 S63 NN63 HH63 GG63 (fits_nar_char _) W64 18 rfl (by rw [own_fill_len]; decide))
  have Z64 : n0 ≤ h64.size := Nat.le_trans Z61 (Keep.of_wr W64).1
  have N64 := Fr.snoc X64 N62 g_b7
  have K64 : Keep h0 h64 [] := K61.wr W64 (Or.inr sz_b7)
  obtain ⟨_, _, ⟨T65, L65, k65, n65⟩, -, X65, ⟨Lc65, hQ65, l65, y65, z65⟩, st65⟩ := Jvm.LawKit.callS X64 hx (y := (⟨"com/example/paniere/paniere/DigitsInTwoLongsPinLaw", "ch", "(IIIZIJ)C"⟩ : MethodName)) hown (mvT hZ (hw _ (List.mem_of_getElem? (i := 2) rfl))) (mvT hZ (hw _ (List.mem_of_getElem? (i := 3) rfl))) (mvT hZ (hw _ (List.mem_of_getElem? (i := 4) rfl))) (mvT hZ (hw _ (List.mem_of_getElem? (i := 5) rfl))) (by decide) (backOf (W := 3) (rm1 l Z a0 hw [] (19 : Int32) pp zz az ff vbits  h64 n0 Z64 ) hZ (hw _ (List.mem_of_getElem? (i := 5) rfl)) (hw _ (List.mem_of_getElem? (i := 4) rfl)) (by decide) (by decide)) (g := (mkF m 399 #[.val (.int vlay), .val (.int vend), .val (.int vsc), .val (.long vbits), .second, .val (.int zz), .val (.int az), .val (.int pp), .val (.int ff), .val (.int (Int32.ofNat ne)), .unset, .unset, .unset, .unset, .unset, .unset, .unset] [(.long vbits), (.int ff), (.int az), (.int zz), (.int pp), (.int (19 : Int32)), (.int (19 : Int32)), (.ref b7), (.ref b7)])) rfl (by rw [hml]; rfl) (argsL := [(.int (19 : Int32)), (.int pp), (.int zz), (.int az), (.int ff), (.long vbits)]) (rest := [(.int (19 : Int32)), (.ref b7), (.ref b7)]) (lenOf pd_4 rfl) rfl (by show 2 * 0 + _ ≤ _; exact Nat.le_of_eq rfl) (hb hby at_399) (fun _ _ => ⟨rfl, e64, (by decide : 1 + 0 ≤ _), (by decide : 44 + 0 ≤ _)⟩)
  dsimp only [Pt.U, Pt.locs, Pt.cells, Pt.slots] at X65 l65 y65 z65 st65 hQ65
  obtain rfl : k65 = 1 := y65; obtain rfl : n65 = 44 := z65
  obtain ⟨rfl, N65q, e65q⟩ := hQ65
  have N65 : Fr n0 L65 := Eq.mpr (congrArg (Fr n0) l65) (Fr.app N64 N65q)
  obtain ⟨cl66, Ar66, q66, S66, NN66, HH66, GG66⟩ := id V64
  have hin66 : ¬ ((19 : Int32) < 0 ∨ cl66.slots.size ≤ ((19 : Int32)).toNatClampNeg) := inb_of S66 ⟨by decide, by decide⟩
  obtain ⟨T67, h67, X67, e67, W67, st67⟩ := stC X65 hx hZ e65q Ar66 (j := (19 : Int32)) hin66  (g := (mkF m 402 #[.val (.int vlay), .val (.int vend), .val (.int vsc), .val (.long vbits), .second, .val (.int zz), .val (.int az), .val (.int pp), .val (.int ff), .val (.int (Int32.ofNat ne)), .unset, .unset, .unset, .unset, .unset, .unset, .unset] [(.int (own_ch (19 : Int32) pp zz az ff vbits)), (.int (19 : Int32)), (.ref b7), (.ref b7)])) rfl rfl (hb hby at_402)
  have V67 : Arv Z h67 b7 k7 .char (44 : Int32) (own_fill (own_f pp zz az ff vbits) 20) (.int (0 : Int32)) := own_arv_eq (own_fill_set (f := (own_f pp zz az ff vbits)) (k := 19) (v := (own_f pp zz az ff vbits) 19) (by decide) rfl rfl) (Arv.set Ar66 q66 S66 NN66 HH66 GG66 (fits_nar_char _) W67 19 rfl (by rw [own_fill_len]; decide))
  have Z67 : n0 ≤ h67.size := Nat.le_trans Z64 (Keep.of_wr W67).1
  have N67 := Fr.snoc X67 N65 g_b7
  have K67 : Keep h0 h67 [] := K64.wr W67 (Or.inr sz_b7)
  obtain ⟨_, _, ⟨T68, L68, k68, n68⟩, -, X68, ⟨Lc68, hQ68, l68, y68, z68⟩, st68⟩ := Jvm.LawKit.callS X67 hx (y := (⟨"com/example/paniere/paniere/DigitsInTwoLongsPinLaw", "ch", "(IIIZIJ)C"⟩ : MethodName)) hown (mvT hZ (hw _ (List.mem_of_getElem? (i := 2) rfl))) (mvT hZ (hw _ (List.mem_of_getElem? (i := 3) rfl))) (mvT hZ (hw _ (List.mem_of_getElem? (i := 4) rfl))) (mvT hZ (hw _ (List.mem_of_getElem? (i := 5) rfl))) (by decide) (backOf (W := 3) (rm1 l Z a0 hw [] (20 : Int32) pp zz az ff vbits  h67 n0 Z67 ) hZ (hw _ (List.mem_of_getElem? (i := 5) rfl)) (hw _ (List.mem_of_getElem? (i := 4) rfl)) (by decide) (by decide)) (g := (mkF m 417 #[.val (.int vlay), .val (.int vend), .val (.int vsc), .val (.long vbits), .second, .val (.int zz), .val (.int az), .val (.int pp), .val (.int ff), .val (.int (Int32.ofNat ne)), .unset, .unset, .unset, .unset, .unset, .unset, .unset] [(.long vbits), (.int ff), (.int az), (.int zz), (.int pp), (.int (20 : Int32)), (.int (20 : Int32)), (.ref b7), (.ref b7)])) rfl (by rw [hml]; rfl) (argsL := [(.int (20 : Int32)), (.int pp), (.int zz), (.int az), (.int ff), (.long vbits)]) (rest := [(.int (20 : Int32)), (.ref b7), (.ref b7)]) (lenOf pd_4 rfl) rfl (by show 2 * 0 + _ ≤ _; exact Nat.le_of_eq rfl) (hb hby at_417) (fun _ _ => ⟨rfl, e67, (by decide : 1 + 0 ≤ _), (by decide : 44 + 0 ≤ _)⟩)
  dsimp only [Pt.U, Pt.locs, Pt.cells, Pt.slots] at X68 l68 y68 z68 st68 hQ68
  obtain rfl : k68 = 1 := y68; obtain rfl : n68 = 44 := z68
  obtain ⟨rfl, N68q, e68q⟩ := hQ68
  have N68 : Fr n0 L68 := Eq.mpr (congrArg (Fr n0) l68) (Fr.app N67 N68q)
  obtain ⟨cl69, Ar69, q69, S69, NN69, HH69, GG69⟩ := id V67
  have hin69 : ¬ ((20 : Int32) < 0 ∨ cl69.slots.size ≤ ((20 : Int32)).toNatClampNeg) := inb_of S69 ⟨by decide, by decide⟩
  obtain ⟨T70, h70, X70, e70, W70, st70⟩ := stC X68 hx hZ e68q Ar69 (j := (20 : Int32)) hin69  (g := (mkF m 420 #[.val (.int vlay), .val (.int vend), .val (.int vsc), .val (.long vbits), .second, .val (.int zz), .val (.int az), .val (.int pp), .val (.int ff), .val (.int (Int32.ofNat ne)), .unset, .unset, .unset, .unset, .unset, .unset, .unset] [(.int (own_ch (20 : Int32) pp zz az ff vbits)), (.int (20 : Int32)), (.ref b7), (.ref b7)])) rfl rfl (hb hby at_420)
  have V70 : Arv Z h70 b7 k7 .char (44 : Int32) (own_fill (own_f pp zz az ff vbits) 21) (.int (0 : Int32)) := own_arv_eq (own_fill_set (f := (own_f pp zz az ff vbits)) (k := 20) (v := (own_f pp zz az ff vbits) 20) (by decide) rfl rfl) (Arv.set Ar69 q69 S69 NN69 HH69 GG69 (fits_nar_char _) W70 20 rfl (by rw [own_fill_len]; decide))
  have Z70 : n0 ≤ h70.size := Nat.le_trans Z67 (Keep.of_wr W70).1
  have N70 := Fr.snoc X70 N68 g_b7
  have K70 : Keep h0 h70 [] := K67.wr W70 (Or.inr sz_b7)
  obtain ⟨_, _, ⟨T71, L71, k71, n71⟩, -, X71, ⟨Lc71, hQ71, l71, y71, z71⟩, st71⟩ := Jvm.LawKit.callS X70 hx (y := (⟨"com/example/paniere/paniere/DigitsInTwoLongsPinLaw", "ch", "(IIIZIJ)C"⟩ : MethodName)) hown (mvT hZ (hw _ (List.mem_of_getElem? (i := 2) rfl))) (mvT hZ (hw _ (List.mem_of_getElem? (i := 3) rfl))) (mvT hZ (hw _ (List.mem_of_getElem? (i := 4) rfl))) (mvT hZ (hw _ (List.mem_of_getElem? (i := 5) rfl))) (by decide) (backOf (W := 3) (rm1 l Z a0 hw [] (21 : Int32) pp zz az ff vbits  h70 n0 Z70 ) hZ (hw _ (List.mem_of_getElem? (i := 5) rfl)) (hw _ (List.mem_of_getElem? (i := 4) rfl)) (by decide) (by decide)) (g := (mkF m 435 #[.val (.int vlay), .val (.int vend), .val (.int vsc), .val (.long vbits), .second, .val (.int zz), .val (.int az), .val (.int pp), .val (.int ff), .val (.int (Int32.ofNat ne)), .unset, .unset, .unset, .unset, .unset, .unset, .unset] [(.long vbits), (.int ff), (.int az), (.int zz), (.int pp), (.int (21 : Int32)), (.int (21 : Int32)), (.ref b7), (.ref b7)])) rfl (by rw [hml]; rfl) (argsL := [(.int (21 : Int32)), (.int pp), (.int zz), (.int az), (.int ff), (.long vbits)]) (rest := [(.int (21 : Int32)), (.ref b7), (.ref b7)]) (lenOf pd_4 rfl) rfl (by show 2 * 0 + _ ≤ _; exact Nat.le_of_eq rfl) (hb hby at_435) (fun _ _ => ⟨rfl, e70, (by decide : 1 + 0 ≤ _), (by decide : 44 + 0 ≤ _)⟩)
  dsimp only [Pt.U, Pt.locs, Pt.cells, Pt.slots] at X71 l71 y71 z71 st71 hQ71
  obtain rfl : k71 = 1 := y71; obtain rfl : n71 = 44 := z71
  obtain ⟨rfl, N71q, e71q⟩ := hQ71
  have N71 : Fr n0 L71 := Eq.mpr (congrArg (Fr n0) l71) (Fr.app N70 N71q)
  obtain ⟨cl72, Ar72, q72, S72, NN72, HH72, GG72⟩ := id V70
  have hin72 : ¬ ((21 : Int32) < 0 ∨ cl72.slots.size ≤ ((21 : Int32)).toNatClampNeg) := inb_of S72 ⟨by decide, by decide⟩
  obtain ⟨T73, h73, X73, e73, W73, st73⟩ := stC X71 hx hZ e71q Ar72 (j := (21 : Int32)) hin72  (g := (mkF m 438 #[.val (.int vlay), .val (.int vend), .val (.int vsc), .val (.long vbits), .second, .val (.int zz), .val (.int az), .val (.int pp), .val (.int ff), .val (.int (Int32.ofNat ne)), .unset, .unset, .unset, .unset, .unset, .unset, .unset] [(.int (own_ch (21 : Int32) pp zz az ff vbits)), (.int (21 : Int32)), (.ref b7), (.ref b7)])) rfl rfl (hb hby at_438)
  have V73 : Arv Z h73 b7 k7 .char (44 : Int32) (own_fill (own_f pp zz az ff vbits) 22) (.int (0 : Int32)) := own_arv_eq (own_fill_set (f := (own_f pp zz az ff vbits)) (k := 21) (v := (own_f pp zz az ff vbits) 21) (by decide) rfl rfl) (Arv.set Ar72 q72 S72 NN72 HH72 GG72 (fits_nar_char _) W73 21 rfl (by rw [own_fill_len]; decide))
  have Z73 : n0 ≤ h73.size := Nat.le_trans Z70 (Keep.of_wr W73).1
  have N73 := Fr.snoc X73 N71 g_b7
  have K73 : Keep h0 h73 [] := K70.wr W73 (Or.inr sz_b7)
  obtain ⟨_, _, ⟨T74, L74, k74, n74⟩, -, X74, ⟨Lc74, hQ74, l74, y74, z74⟩, st74⟩ := Jvm.LawKit.callS X73 hx (y := (⟨"com/example/paniere/paniere/DigitsInTwoLongsPinLaw", "ch", "(IIIZIJ)C"⟩ : MethodName)) hown (mvT hZ (hw _ (List.mem_of_getElem? (i := 2) rfl))) (mvT hZ (hw _ (List.mem_of_getElem? (i := 3) rfl))) (mvT hZ (hw _ (List.mem_of_getElem? (i := 4) rfl))) (mvT hZ (hw _ (List.mem_of_getElem? (i := 5) rfl))) (by decide) (backOf (W := 3) (rm1 l Z a0 hw [] (22 : Int32) pp zz az ff vbits  h73 n0 Z73 ) hZ (hw _ (List.mem_of_getElem? (i := 5) rfl)) (hw _ (List.mem_of_getElem? (i := 4) rfl)) (by decide) (by decide)) (g := (mkF m 453 #[.val (.int vlay), .val (.int vend), .val (.int vsc), .val (.long vbits), .second, .val (.int zz), .val (.int az), .val (.int pp), .val (.int ff), .val (.int (Int32.ofNat ne)), .unset, .unset, .unset, .unset, .unset, .unset, .unset] [(.long vbits), (.int ff), (.int az), (.int zz), (.int pp), (.int (22 : Int32)), (.int (22 : Int32)), (.ref b7), (.ref b7)])) rfl (by rw [hml]; rfl) (argsL := [(.int (22 : Int32)), (.int pp), (.int zz), (.int az), (.int ff), (.long vbits)]) (rest := [(.int (22 : Int32)), (.ref b7), (.ref b7)]) (lenOf pd_4 rfl) rfl (by show 2 * 0 + _ ≤ _; exact Nat.le_of_eq rfl) (hb hby at_453) (fun _ _ => ⟨rfl, e73, (by decide : 1 + 0 ≤ _), (by decide : 44 + 0 ≤ _)⟩)
  dsimp only [Pt.U, Pt.locs, Pt.cells, Pt.slots] at X74 l74 y74 z74 st74 hQ74
  obtain rfl : k74 = 1 := y74; obtain rfl : n74 = 44 := z74
  obtain ⟨rfl, N74q, e74q⟩ := hQ74
  have N74 : Fr n0 L74 := Eq.mpr (congrArg (Fr n0) l74) (Fr.app N73 N74q)
  obtain ⟨cl75, Ar75, q75, S75, NN75, HH75, GG75⟩ := id V73
  have hin75 : ¬ ((22 : Int32) < 0 ∨ cl75.slots.size ≤ ((22 : Int32)).toNatClampNeg) := inb_of S75 ⟨by decide, by decide⟩
  obtain ⟨T76, h76, X76, e76, W76, st76⟩ := stC X74 hx hZ e74q Ar75 (j := (22 : Int32)) hin75  (g := (mkF m 456 #[.val (.int vlay), .val (.int vend), .val (.int vsc), .val (.long vbits), .second, .val (.int zz), .val (.int az), .val (.int pp), .val (.int ff), .val (.int (Int32.ofNat ne)), .unset, .unset, .unset, .unset, .unset, .unset, .unset] [(.int (own_ch (22 : Int32) pp zz az ff vbits)), (.int (22 : Int32)), (.ref b7), (.ref b7)])) rfl rfl (hb hby at_456)
  have V76 : Arv Z h76 b7 k7 .char (44 : Int32) (own_fill (own_f pp zz az ff vbits) 23) (.int (0 : Int32)) := own_arv_eq (own_fill_set (f := (own_f pp zz az ff vbits)) (k := 22) (v := (own_f pp zz az ff vbits) 22) (by decide) rfl rfl) (Arv.set Ar75 q75 S75 NN75 HH75 GG75 (fits_nar_char _) W76 22 rfl (by rw [own_fill_len]; decide))
  have Z76 : n0 ≤ h76.size := Nat.le_trans Z73 (Keep.of_wr W76).1
  have N76 := Fr.snoc X76 N74 g_b7
  have K76 : Keep h0 h76 [] := K73.wr W76 (Or.inr sz_b7)
  obtain ⟨_, _, ⟨T77, L77, k77, n77⟩, -, X77, ⟨Lc77, hQ77, l77, y77, z77⟩, st77⟩ := Jvm.LawKit.callS X76 hx (y := (⟨"com/example/paniere/paniere/DigitsInTwoLongsPinLaw", "ch", "(IIIZIJ)C"⟩ : MethodName)) hown (mvT hZ (hw _ (List.mem_of_getElem? (i := 2) rfl))) (mvT hZ (hw _ (List.mem_of_getElem? (i := 3) rfl))) (mvT hZ (hw _ (List.mem_of_getElem? (i := 4) rfl))) (mvT hZ (hw _ (List.mem_of_getElem? (i := 5) rfl))) (by decide) (backOf (W := 3) (rm1 l Z a0 hw [] (23 : Int32) pp zz az ff vbits  h76 n0 Z76 ) hZ (hw _ (List.mem_of_getElem? (i := 5) rfl)) (hw _ (List.mem_of_getElem? (i := 4) rfl)) (by decide) (by decide)) (g := (mkF m 471 #[.val (.int vlay), .val (.int vend), .val (.int vsc), .val (.long vbits), .second, .val (.int zz), .val (.int az), .val (.int pp), .val (.int ff), .val (.int (Int32.ofNat ne)), .unset, .unset, .unset, .unset, .unset, .unset, .unset] [(.long vbits), (.int ff), (.int az), (.int zz), (.int pp), (.int (23 : Int32)), (.int (23 : Int32)), (.ref b7), (.ref b7)])) rfl (by rw [hml]; rfl) (argsL := [(.int (23 : Int32)), (.int pp), (.int zz), (.int az), (.int ff), (.long vbits)]) (rest := [(.int (23 : Int32)), (.ref b7), (.ref b7)]) (lenOf pd_4 rfl) rfl (by show 2 * 0 + _ ≤ _; exact Nat.le_of_eq rfl) (hb hby at_471) (fun _ _ => ⟨rfl, e76, (by decide : 1 + 0 ≤ _), (by decide : 44 + 0 ≤ _)⟩)
  dsimp only [Pt.U, Pt.locs, Pt.cells, Pt.slots] at X77 l77 y77 z77 st77 hQ77
  obtain rfl : k77 = 1 := y77; obtain rfl : n77 = 44 := z77
  obtain ⟨rfl, N77q, e77q⟩ := hQ77
  have N77 : Fr n0 L77 := Eq.mpr (congrArg (Fr n0) l77) (Fr.app N76 N77q)
  obtain ⟨cl78, Ar78, q78, S78, NN78, HH78, GG78⟩ := id V76
  have hin78 : ¬ ((23 : Int32) < 0 ∨ cl78.slots.size ≤ ((23 : Int32)).toNatClampNeg) := inb_of S78 ⟨by decide, by decide⟩
  obtain ⟨T79, h79, X79, e79, W79, st79⟩ := stC X77 hx hZ e77q Ar78 (j := (23 : Int32)) hin78  (g := (mkF m 474 #[.val (.int vlay), .val (.int vend), .val (.int vsc), .val (.long vbits), .second, .val (.int zz), .val (.int az), .val (.int pp), .val (.int ff), .val (.int (Int32.ofNat ne)), .unset, .unset, .unset, .unset, .unset, .unset, .unset] [(.int (own_ch (23 : Int32) pp zz az ff vbits)), (.int (23 : Int32)), (.ref b7), (.ref b7)])) rfl rfl (hb hby at_474)
  have V79 : Arv Z h79 b7 k7 .char (44 : Int32) (own_fill (own_f pp zz az ff vbits) 24) (.int (0 : Int32)) := own_arv_eq (own_fill_set (f := (own_f pp zz az ff vbits)) (k := 23) (v := (own_f pp zz az ff vbits) 23) (by decide) rfl rfl) (Arv.set Ar78 q78 S78 NN78 HH78 GG78 (fits_nar_char _) W79 23 rfl (by rw [own_fill_len]; decide))
  have Z79 : n0 ≤ h79.size := Nat.le_trans Z76 (Keep.of_wr W79).1
  have N79 := Fr.snoc X79 N77 g_b7
  have K79 : Keep h0 h79 [] := K76.wr W79 (Or.inr sz_b7)
  obtain ⟨_, _, ⟨T80, L80, k80, n80⟩, -, X80, ⟨Lc80, hQ80, l80, y80, z80⟩, st80⟩ := Jvm.LawKit.callS X79 hx (y := (⟨"com/example/paniere/paniere/DigitsInTwoLongsPinLaw", "ch", "(IIIZIJ)C"⟩ : MethodName)) hown (mvT hZ (hw _ (List.mem_of_getElem? (i := 2) rfl))) (mvT hZ (hw _ (List.mem_of_getElem? (i := 3) rfl))) (mvT hZ (hw _ (List.mem_of_getElem? (i := 4) rfl))) (mvT hZ (hw _ (List.mem_of_getElem? (i := 5) rfl))) (by decide) (backOf (W := 3) (rm1 l Z a0 hw [] (24 : Int32) pp zz az ff vbits  h79 n0 Z79 ) hZ (hw _ (List.mem_of_getElem? (i := 5) rfl)) (hw _ (List.mem_of_getElem? (i := 4) rfl)) (by decide) (by decide)) (g := (mkF m 489 #[.val (.int vlay), .val (.int vend), .val (.int vsc), .val (.long vbits), .second, .val (.int zz), .val (.int az), .val (.int pp), .val (.int ff), .val (.int (Int32.ofNat ne)), .unset, .unset, .unset, .unset, .unset, .unset, .unset] [(.long vbits), (.int ff), (.int az), (.int zz), (.int pp), (.int (24 : Int32)), (.int (24 : Int32)), (.ref b7), (.ref b7)])) rfl (by rw [hml]; rfl) (argsL := [(.int (24 : Int32)), (.int pp), (.int zz), (.int az), (.int ff), (.long vbits)]) (rest := [(.int (24 : Int32)), (.ref b7), (.ref b7)]) (lenOf pd_4 rfl) rfl (by show 2 * 0 + _ ≤ _; exact Nat.le_of_eq rfl) (hb hby at_489) (fun _ _ => ⟨rfl, e79, (by decide : 1 + 0 ≤ _), (by decide : 44 + 0 ≤ _)⟩)
  dsimp only [Pt.U, Pt.locs, Pt.cells, Pt.slots] at X80 l80 y80 z80 st80 hQ80
  obtain rfl : k80 = 1 := y80; obtain rfl : n80 = 44 := z80
  obtain ⟨rfl, N80q, e80q⟩ := hQ80
  have N80 : Fr n0 L80 := Eq.mpr (congrArg (Fr n0) l80) (Fr.app N79 N80q)
  obtain ⟨cl81, Ar81, q81, S81, NN81, HH81, GG81⟩ := id V79
  have hin81 : ¬ ((24 : Int32) < 0 ∨ cl81.slots.size ≤ ((24 : Int32)).toNatClampNeg) := inb_of S81 ⟨by decide, by decide⟩
  obtain ⟨T82, h82, X82, e82, W82, st82⟩ := stC X80 hx hZ e80q Ar81 (j := (24 : Int32)) hin81  (g := (mkF m 492 #[.val (.int vlay), .val (.int vend), .val (.int vsc), .val (.long vbits), .second, .val (.int zz), .val (.int az), .val (.int pp), .val (.int ff), .val (.int (Int32.ofNat ne)), .unset, .unset, .unset, .unset, .unset, .unset, .unset] [(.int (own_ch (24 : Int32) pp zz az ff vbits)), (.int (24 : Int32)), (.ref b7), (.ref b7)])) rfl rfl (hb hby at_492)
  have V82 : Arv Z h82 b7 k7 .char (44 : Int32) (own_fill (own_f pp zz az ff vbits) 25) (.int (0 : Int32)) := own_arv_eq (own_fill_set (f := (own_f pp zz az ff vbits)) (k := 24) (v := (own_f pp zz az ff vbits) 24) (by decide) rfl rfl) (Arv.set Ar81 q81 S81 NN81 HH81 GG81 (fits_nar_char _) W82 24 rfl (by rw [own_fill_len]; decide))
  have Z82 : n0 ≤ h82.size := Nat.le_trans Z79 (Keep.of_wr W82).1
  have N82 := Fr.snoc X82 N80 g_b7
  have K82 : Keep h0 h82 [] := K79.wr W82 (Or.inr sz_b7)
  obtain ⟨_, _, ⟨T83, L83, k83, n83⟩, -, X83, ⟨Lc83, hQ83, l83, y83, z83⟩, st83⟩ := Jvm.LawKit.callS X82 hx (y := (⟨"com/example/paniere/paniere/DigitsInTwoLongsPinLaw", "ch", "(IIIZIJ)C"⟩ : MethodName)) hown (mvT hZ (hw _ (List.mem_of_getElem? (i := 2) rfl))) (mvT hZ (hw _ (List.mem_of_getElem? (i := 3) rfl))) (mvT hZ (hw _ (List.mem_of_getElem? (i := 4) rfl))) (mvT hZ (hw _ (List.mem_of_getElem? (i := 5) rfl))) (by decide) (backOf (W := 3) (rm1 l Z a0 hw [] (25 : Int32) pp zz az ff vbits  h82 n0 Z82 ) hZ (hw _ (List.mem_of_getElem? (i := 5) rfl)) (hw _ (List.mem_of_getElem? (i := 4) rfl)) (by decide) (by decide)) (g := (mkF m 507 #[.val (.int vlay), .val (.int vend), .val (.int vsc), .val (.long vbits), .second, .val (.int zz), .val (.int az), .val (.int pp), .val (.int ff), .val (.int (Int32.ofNat ne)), .unset, .unset, .unset, .unset, .unset, .unset, .unset] [(.long vbits), (.int ff), (.int az), (.int zz), (.int pp), (.int (25 : Int32)), (.int (25 : Int32)), (.ref b7), (.ref b7)])) rfl (by rw [hml]; rfl) (argsL := [(.int (25 : Int32)), (.int pp), (.int zz), (.int az), (.int ff), (.long vbits)]) (rest := [(.int (25 : Int32)), (.ref b7), (.ref b7)]) (lenOf pd_4 rfl) rfl (by show 2 * 0 + _ ≤ _; exact Nat.le_of_eq rfl) (hb hby at_507) (fun _ _ => ⟨rfl, e82, (by decide : 1 + 0 ≤ _), (by decide : 44 + 0 ≤ _)⟩)
  dsimp only [Pt.U, Pt.locs, Pt.cells, Pt.slots] at X83 l83 y83 z83 st83 hQ83
  obtain rfl : k83 = 1 := y83; obtain rfl : n83 = 44 := z83
  obtain ⟨rfl, N83q, e83q⟩ := hQ83
  have N83 : Fr n0 L83 := Eq.mpr (congrArg (Fr n0) l83) (Fr.app N82 N83q)
  obtain ⟨cl84, Ar84, q84, S84, NN84, HH84, GG84⟩ := id V82
  have hin84 : ¬ ((25 : Int32) < 0 ∨ cl84.slots.size ≤ ((25 : Int32)).toNatClampNeg) := inb_of S84 ⟨by decide, by decide⟩
  obtain ⟨T85, h85, X85, e85, W85, st85⟩ := stC X83 hx hZ e83q Ar84 (j := (25 : Int32)) hin84  (g := (mkF m 510 #[.val (.int vlay), .val (.int vend), .val (.int vsc), .val (.long vbits), .second, .val (.int zz), .val (.int az), .val (.int pp), .val (.int ff), .val (.int (Int32.ofNat ne)), .unset, .unset, .unset, .unset, .unset, .unset, .unset] [(.int (own_ch (25 : Int32) pp zz az ff vbits)), (.int (25 : Int32)), (.ref b7), (.ref b7)])) rfl rfl (hb hby at_510)
  have V85 : Arv Z h85 b7 k7 .char (44 : Int32) (own_fill (own_f pp zz az ff vbits) 26) (.int (0 : Int32)) := own_arv_eq (own_fill_set (f := (own_f pp zz az ff vbits)) (k := 25) (v := (own_f pp zz az ff vbits) 25) (by decide) rfl rfl) (Arv.set Ar84 q84 S84 NN84 HH84 GG84 (fits_nar_char _) W85 25 rfl (by rw [own_fill_len]; decide))
  have Z85 : n0 ≤ h85.size := Nat.le_trans Z82 (Keep.of_wr W85).1
  have N85 := Fr.snoc X85 N83 g_b7
  have K85 : Keep h0 h85 [] := K82.wr W85 (Or.inr sz_b7)
  obtain ⟨_, _, ⟨T86, L86, k86, n86⟩, -, X86, ⟨Lc86, hQ86, l86, y86, z86⟩, st86⟩ := Jvm.LawKit.callS X85 hx (y := (⟨"com/example/paniere/paniere/DigitsInTwoLongsPinLaw", "ch", "(IIIZIJ)C"⟩ : MethodName)) hown (mvT hZ (hw _ (List.mem_of_getElem? (i := 2) rfl))) (mvT hZ (hw _ (List.mem_of_getElem? (i := 3) rfl))) (mvT hZ (hw _ (List.mem_of_getElem? (i := 4) rfl))) (mvT hZ (hw _ (List.mem_of_getElem? (i := 5) rfl))) (by decide) (backOf (W := 3) (rm1 l Z a0 hw [] (26 : Int32) pp zz az ff vbits  h85 n0 Z85 ) hZ (hw _ (List.mem_of_getElem? (i := 5) rfl)) (hw _ (List.mem_of_getElem? (i := 4) rfl)) (by decide) (by decide)) (g := (mkF m 525 #[.val (.int vlay), .val (.int vend), .val (.int vsc), .val (.long vbits), .second, .val (.int zz), .val (.int az), .val (.int pp), .val (.int ff), .val (.int (Int32.ofNat ne)), .unset, .unset, .unset, .unset, .unset, .unset, .unset] [(.long vbits), (.int ff), (.int az), (.int zz), (.int pp), (.int (26 : Int32)), (.int (26 : Int32)), (.ref b7), (.ref b7)])) rfl (by rw [hml]; rfl) (argsL := [(.int (26 : Int32)), (.int pp), (.int zz), (.int az), (.int ff), (.long vbits)]) (rest := [(.int (26 : Int32)), (.ref b7), (.ref b7)]) (lenOf pd_4 rfl) rfl (by show 2 * 0 + _ ≤ _; exact Nat.le_of_eq rfl) (hb hby at_525) (fun _ _ => ⟨rfl, e85, (by decide : 1 + 0 ≤ _), (by decide : 44 + 0 ≤ _)⟩)
  dsimp only [Pt.U, Pt.locs, Pt.cells, Pt.slots] at X86 l86 y86 z86 st86 hQ86
  obtain rfl : k86 = 1 := y86; obtain rfl : n86 = 44 := z86
  obtain ⟨rfl, N86q, e86q⟩ := hQ86
  have N86 : Fr n0 L86 := Eq.mpr (congrArg (Fr n0) l86) (Fr.app N85 N86q)
  obtain ⟨cl87, Ar87, q87, S87, NN87, HH87, GG87⟩ := id V85
  have hin87 : ¬ ((26 : Int32) < 0 ∨ cl87.slots.size ≤ ((26 : Int32)).toNatClampNeg) := inb_of S87 ⟨by decide, by decide⟩
  obtain ⟨T88, h88, X88, e88, W88, st88⟩ := stC X86 hx hZ e86q Ar87 (j := (26 : Int32)) hin87  (g := (mkF m 528 #[.val (.int vlay), .val (.int vend), .val (.int vsc), .val (.long vbits), .second, .val (.int zz), .val (.int az), .val (.int pp), .val (.int ff), .val (.int (Int32.ofNat ne)), .unset, .unset, .unset, .unset, .unset, .unset, .unset] [(.int (own_ch (26 : Int32) pp zz az ff vbits)), (.int (26 : Int32)), (.ref b7), (.ref b7)])) rfl rfl (hb hby at_528)
  have V88 : Arv Z h88 b7 k7 .char (44 : Int32) (own_fill (own_f pp zz az ff vbits) 27) (.int (0 : Int32)) := own_arv_eq (own_fill_set (f := (own_f pp zz az ff vbits)) (k := 26) (v := (own_f pp zz az ff vbits) 26) (by decide) rfl rfl) (Arv.set Ar87 q87 S87 NN87 HH87 GG87 (fits_nar_char _) W88 26 rfl (by rw [own_fill_len]; decide))
  have Z88 : n0 ≤ h88.size := Nat.le_trans Z85 (Keep.of_wr W88).1
  have N88 := Fr.snoc X88 N86 g_b7
  have K88 : Keep h0 h88 [] := K85.wr W88 (Or.inr sz_b7)
  obtain ⟨_, _, ⟨T89, L89, k89, n89⟩, -, X89, ⟨Lc89, hQ89, l89, y89, z89⟩, st89⟩ := Jvm.LawKit.callS X88 hx (y := (⟨"com/example/paniere/paniere/DigitsInTwoLongsPinLaw", "ch", "(IIIZIJ)C"⟩ : MethodName)) hown (mvT hZ (hw _ (List.mem_of_getElem? (i := 2) rfl))) (mvT hZ (hw _ (List.mem_of_getElem? (i := 3) rfl))) (mvT hZ (hw _ (List.mem_of_getElem? (i := 4) rfl))) (mvT hZ (hw _ (List.mem_of_getElem? (i := 5) rfl))) (by decide) (backOf (W := 3) (rm1 l Z a0 hw [] (27 : Int32) pp zz az ff vbits  h88 n0 Z88 ) hZ (hw _ (List.mem_of_getElem? (i := 5) rfl)) (hw _ (List.mem_of_getElem? (i := 4) rfl)) (by decide) (by decide)) (g := (mkF m 543 #[.val (.int vlay), .val (.int vend), .val (.int vsc), .val (.long vbits), .second, .val (.int zz), .val (.int az), .val (.int pp), .val (.int ff), .val (.int (Int32.ofNat ne)), .unset, .unset, .unset, .unset, .unset, .unset, .unset] [(.long vbits), (.int ff), (.int az), (.int zz), (.int pp), (.int (27 : Int32)), (.int (27 : Int32)), (.ref b7), (.ref b7)])) rfl (by rw [hml]; rfl) (argsL := [(.int (27 : Int32)), (.int pp), (.int zz), (.int az), (.int ff), (.long vbits)]) (rest := [(.int (27 : Int32)), (.ref b7), (.ref b7)]) (lenOf pd_4 rfl) rfl (by show 2 * 0 + _ ≤ _; exact Nat.le_of_eq rfl) (hb hby at_543) (fun _ _ => ⟨rfl, e88, (by decide : 1 + 0 ≤ _), (by decide : 44 + 0 ≤ _)⟩)
  dsimp only [Pt.U, Pt.locs, Pt.cells, Pt.slots] at X89 l89 y89 z89 st89 hQ89
  obtain rfl : k89 = 1 := y89; obtain rfl : n89 = 44 := z89
  obtain ⟨rfl, N89q, e89q⟩ := hQ89
  have N89 : Fr n0 L89 := Eq.mpr (congrArg (Fr n0) l89) (Fr.app N88 N89q)
  obtain ⟨cl90, Ar90, q90, S90, NN90, HH90, GG90⟩ := id V88
  have hin90 : ¬ ((27 : Int32) < 0 ∨ cl90.slots.size ≤ ((27 : Int32)).toNatClampNeg) := inb_of S90 ⟨by decide, by decide⟩
  obtain ⟨T91, h91, X91, e91, W91, st91⟩ := stC X89 hx hZ e89q Ar90 (j := (27 : Int32)) hin90  (g := (mkF m 546 #[.val (.int vlay), .val (.int vend), .val (.int vsc), .val (.long vbits), .second, .val (.int zz), .val (.int az), .val (.int pp), .val (.int ff), .val (.int (Int32.ofNat ne)), .unset, .unset, .unset, .unset, .unset, .unset, .unset] [(.int (own_ch (27 : Int32) pp zz az ff vbits)), (.int (27 : Int32)), (.ref b7), (.ref b7)])) rfl rfl (hb hby at_546)
  have V91 : Arv Z h91 b7 k7 .char (44 : Int32) (own_fill (own_f pp zz az ff vbits) 28) (.int (0 : Int32)) := own_arv_eq (own_fill_set (f := (own_f pp zz az ff vbits)) (k := 27) (v := (own_f pp zz az ff vbits) 27) (by decide) rfl rfl) (Arv.set Ar90 q90 S90 NN90 HH90 GG90 (fits_nar_char _) W91 27 rfl (by rw [own_fill_len]; decide))
  have Z91 : n0 ≤ h91.size := Nat.le_trans Z88 (Keep.of_wr W91).1
  have N91 := Fr.snoc X91 N89 g_b7
  have K91 : Keep h0 h91 [] := K88.wr W91 (Or.inr sz_b7)
  obtain ⟨_, _, ⟨T92, L92, k92, n92⟩, -, X92, ⟨Lc92, hQ92, l92, y92, z92⟩, st92⟩ := Jvm.LawKit.callS X91 hx (y := (⟨"com/example/paniere/paniere/DigitsInTwoLongsPinLaw", "ch", "(IIIZIJ)C"⟩ : MethodName)) hown (mvT hZ (hw _ (List.mem_of_getElem? (i := 2) rfl))) (mvT hZ (hw _ (List.mem_of_getElem? (i := 3) rfl))) (mvT hZ (hw _ (List.mem_of_getElem? (i := 4) rfl))) (mvT hZ (hw _ (List.mem_of_getElem? (i := 5) rfl))) (by decide) (backOf (W := 3) (rm1 l Z a0 hw [] (28 : Int32) pp zz az ff vbits  h91 n0 Z91 ) hZ (hw _ (List.mem_of_getElem? (i := 5) rfl)) (hw _ (List.mem_of_getElem? (i := 4) rfl)) (by decide) (by decide)) (g := (mkF m 561 #[.val (.int vlay), .val (.int vend), .val (.int vsc), .val (.long vbits), .second, .val (.int zz), .val (.int az), .val (.int pp), .val (.int ff), .val (.int (Int32.ofNat ne)), .unset, .unset, .unset, .unset, .unset, .unset, .unset] [(.long vbits), (.int ff), (.int az), (.int zz), (.int pp), (.int (28 : Int32)), (.int (28 : Int32)), (.ref b7), (.ref b7)])) rfl (by rw [hml]; rfl) (argsL := [(.int (28 : Int32)), (.int pp), (.int zz), (.int az), (.int ff), (.long vbits)]) (rest := [(.int (28 : Int32)), (.ref b7), (.ref b7)]) (lenOf pd_4 rfl) rfl (by show 2 * 0 + _ ≤ _; exact Nat.le_of_eq rfl) (hb hby at_561) (fun _ _ => ⟨rfl, e91, (by decide : 1 + 0 ≤ _), (by decide : 44 + 0 ≤ _)⟩)
  dsimp only [Pt.U, Pt.locs, Pt.cells, Pt.slots] at X92 l92 y92 z92 st92 hQ92
  obtain rfl : k92 = 1 := y92; obtain rfl : n92 = 44 := z92
  obtain ⟨rfl, N92q, e92q⟩ := hQ92
  have N92 : Fr n0 L92 := Eq.mpr (congrArg (Fr n0) l92) (Fr.app N91 N92q)
  obtain ⟨cl93, Ar93, q93, S93, NN93, HH93, GG93⟩ := id V91
  have hin93 : ¬ ((28 : Int32) < 0 ∨ cl93.slots.size ≤ ((28 : Int32)).toNatClampNeg) := inb_of S93 ⟨by decide, by decide⟩
  obtain ⟨T94, h94, X94, e94, W94, st94⟩ := stC X92 hx hZ e92q Ar93 (j := (28 : Int32)) hin93  (g := (mkF m 564 #[.val (.int vlay), .val (.int vend), .val (.int vsc), .val (.long vbits), .second, .val (.int zz), .val (.int az), .val (.int pp), .val (.int ff), .val (.int (Int32.ofNat ne)), .unset, .unset, .unset, .unset, .unset, .unset, .unset] [(.int (own_ch (28 : Int32) pp zz az ff vbits)), (.int (28 : Int32)), (.ref b7), (.ref b7)])) rfl rfl (hb hby at_564)
  have V94 : Arv Z h94 b7 k7 .char (44 : Int32) (own_fill (own_f pp zz az ff vbits) 29) (.int (0 : Int32)) := own_arv_eq (own_fill_set (f := (own_f pp zz az ff vbits)) (k := 28) (v := (own_f pp zz az ff vbits) 28) (by decide) rfl rfl) (Arv.set Ar93 q93 S93 NN93 HH93 GG93 (fits_nar_char _) W94 28 rfl (by rw [own_fill_len]; decide))
  have Z94 : n0 ≤ h94.size := Nat.le_trans Z91 (Keep.of_wr W94).1
  have N94 := Fr.snoc X94 N92 g_b7
  have K94 : Keep h0 h94 [] := K91.wr W94 (Or.inr sz_b7)
  obtain ⟨_, _, ⟨T95, L95, k95, n95⟩, -, X95, ⟨Lc95, hQ95, l95, y95, z95⟩, st95⟩ := Jvm.LawKit.callS X94 hx (y := (⟨"com/example/paniere/paniere/DigitsInTwoLongsPinLaw", "ch", "(IIIZIJ)C"⟩ : MethodName)) hown (mvT hZ (hw _ (List.mem_of_getElem? (i := 2) rfl))) (mvT hZ (hw _ (List.mem_of_getElem? (i := 3) rfl))) (mvT hZ (hw _ (List.mem_of_getElem? (i := 4) rfl))) (mvT hZ (hw _ (List.mem_of_getElem? (i := 5) rfl))) (by decide) (backOf (W := 3) (rm1 l Z a0 hw [] (29 : Int32) pp zz az ff vbits  h94 n0 Z94 ) hZ (hw _ (List.mem_of_getElem? (i := 5) rfl)) (hw _ (List.mem_of_getElem? (i := 4) rfl)) (by decide) (by decide)) (g := (mkF m 579 #[.val (.int vlay), .val (.int vend), .val (.int vsc), .val (.long vbits), .second, .val (.int zz), .val (.int az), .val (.int pp), .val (.int ff), .val (.int (Int32.ofNat ne)), .unset, .unset, .unset, .unset, .unset, .unset, .unset] [(.long vbits), (.int ff), (.int az), (.int zz), (.int pp), (.int (29 : Int32)), (.int (29 : Int32)), (.ref b7), (.ref b7)])) rfl (by rw [hml]; rfl) (argsL := [(.int (29 : Int32)), (.int pp), (.int zz), (.int az), (.int ff), (.long vbits)]) (rest := [(.int (29 : Int32)), (.ref b7), (.ref b7)]) (lenOf pd_4 rfl) rfl (by show 2 * 0 + _ ≤ _; exact Nat.le_of_eq rfl) (hb hby at_579) (fun _ _ => ⟨rfl, e94, (by decide : 1 + 0 ≤ _), (by decide : 44 + 0 ≤ _)⟩)
  dsimp only [Pt.U, Pt.locs, Pt.cells, Pt.slots] at X95 l95 y95 z95 st95 hQ95
  obtain rfl : k95 = 1 := y95; obtain rfl : n95 = 44 := z95
  obtain ⟨rfl, N95q, e95q⟩ := hQ95
  have N95 : Fr n0 L95 := Eq.mpr (congrArg (Fr n0) l95) (Fr.app N94 N95q)
  obtain ⟨cl96, Ar96, q96, S96, NN96, HH96, GG96⟩ := id V94
  have hin96 : ¬ ((29 : Int32) < 0 ∨ cl96.slots.size ≤ ((29 : Int32)).toNatClampNeg) := inb_of S96 ⟨by decide, by decide⟩
  obtain ⟨T97, h97, X97, e97, W97, st97⟩ := stC X95 hx hZ e95q Ar96 (j := (29 : Int32)) hin96  (g := (mkF m 582 #[.val (.int vlay), .val (.int vend), .val (.int vsc), .val (.long vbits), .second, .val (.int zz), .val (.int az), .val (.int pp), .val (.int ff), .val (.int (Int32.ofNat ne)), .unset, .unset, .unset, .unset, .unset, .unset, .unset] [(.int (own_ch (29 : Int32) pp zz az ff vbits)), (.int (29 : Int32)), (.ref b7), (.ref b7)])) rfl rfl (hb hby at_582)
  have V97 : Arv Z h97 b7 k7 .char (44 : Int32) (own_fill (own_f pp zz az ff vbits) 30) (.int (0 : Int32)) := own_arv_eq (own_fill_set (f := (own_f pp zz az ff vbits)) (k := 29) (v := (own_f pp zz az ff vbits) 29) (by decide) rfl rfl) (Arv.set Ar96 q96 S96 NN96 HH96 GG96 (fits_nar_char _) W97 29 rfl (by rw [own_fill_len]; decide))
  have Z97 : n0 ≤ h97.size := Nat.le_trans Z94 (Keep.of_wr W97).1
  have N97 := Fr.snoc X97 N95 g_b7
  have K97 : Keep h0 h97 [] := K94.wr W97 (Or.inr sz_b7)
  obtain ⟨_, _, ⟨T98, L98, k98, n98⟩, -, X98, ⟨Lc98, hQ98, l98, y98, z98⟩, st98⟩ := Jvm.LawKit.callS X97 hx (y := (⟨"com/example/paniere/paniere/DigitsInTwoLongsPinLaw", "ch", "(IIIZIJ)C"⟩ : MethodName)) hown (mvT hZ (hw _ (List.mem_of_getElem? (i := 2) rfl))) (mvT hZ (hw _ (List.mem_of_getElem? (i := 3) rfl))) (mvT hZ (hw _ (List.mem_of_getElem? (i := 4) rfl))) (mvT hZ (hw _ (List.mem_of_getElem? (i := 5) rfl))) (by decide) (backOf (W := 3) (rm1 l Z a0 hw [] (30 : Int32) pp zz az ff vbits  h97 n0 Z97 ) hZ (hw _ (List.mem_of_getElem? (i := 5) rfl)) (hw _ (List.mem_of_getElem? (i := 4) rfl)) (by decide) (by decide)) (g := (mkF m 597 #[.val (.int vlay), .val (.int vend), .val (.int vsc), .val (.long vbits), .second, .val (.int zz), .val (.int az), .val (.int pp), .val (.int ff), .val (.int (Int32.ofNat ne)), .unset, .unset, .unset, .unset, .unset, .unset, .unset] [(.long vbits), (.int ff), (.int az), (.int zz), (.int pp), (.int (30 : Int32)), (.int (30 : Int32)), (.ref b7), (.ref b7)])) rfl (by rw [hml]; rfl) (argsL := [(.int (30 : Int32)), (.int pp), (.int zz), (.int az), (.int ff), (.long vbits)]) (rest := [(.int (30 : Int32)), (.ref b7), (.ref b7)]) (lenOf pd_4 rfl) rfl (by show 2 * 0 + _ ≤ _; exact Nat.le_of_eq rfl) (hb hby at_597) (fun _ _ => ⟨rfl, e97, (by decide : 1 + 0 ≤ _), (by decide : 44 + 0 ≤ _)⟩)
  dsimp only [Pt.U, Pt.locs, Pt.cells, Pt.slots] at X98 l98 y98 z98 st98 hQ98
  obtain rfl : k98 = 1 := y98; obtain rfl : n98 = 44 := z98
  obtain ⟨rfl, N98q, e98q⟩ := hQ98
  have N98 : Fr n0 L98 := Eq.mpr (congrArg (Fr n0) l98) (Fr.app N97 N98q)
  obtain ⟨cl99, Ar99, q99, S99, NN99, HH99, GG99⟩ := id V97
  have hin99 : ¬ ((30 : Int32) < 0 ∨ cl99.slots.size ≤ ((30 : Int32)).toNatClampNeg) := inb_of S99 ⟨by decide, by decide⟩
  obtain ⟨T100, h100, X100, e100, W100, st100⟩ := stC X98 hx hZ e98q Ar99 (j := (30 : Int32)) hin99  (g := (mkF m 600 #[.val (.int vlay), .val (.int vend), .val (.int vsc), .val (.long vbits), .second, .val (.int zz), .val (.int az), .val (.int pp), .val (.int ff), .val (.int (Int32.ofNat ne)), .unset, .unset, .unset, .unset, .unset, .unset, .unset] [(.int (own_ch (30 : Int32) pp zz az ff vbits)), (.int (30 : Int32)), (.ref b7), (.ref b7)])) rfl rfl (hb hby at_600)
  have V100 : Arv Z h100 b7 k7 .char (44 : Int32) (own_fill (own_f pp zz az ff vbits) 31) (.int (0 : Int32)) := own_arv_eq (own_fill_set (f := (own_f pp zz az ff vbits)) (k := 30) (v := (own_f pp zz az ff vbits) 30) (by decide) rfl rfl) (Arv.set Ar99 q99 S99 NN99 HH99 GG99 (fits_nar_char _) W100 30 rfl (by rw [own_fill_len]; decide))
  have Z100 : n0 ≤ h100.size := Nat.le_trans Z97 (Keep.of_wr W100).1
  have N100 := Fr.snoc X100 N98 g_b7
  have K100 : Keep h0 h100 [] := K97.wr W100 (Or.inr sz_b7)
  obtain ⟨_, _, ⟨T101, L101, k101, n101⟩, -, X101, ⟨Lc101, hQ101, l101, y101, z101⟩, st101⟩ := Jvm.LawKit.callS X100 hx (y := (⟨"com/example/paniere/paniere/DigitsInTwoLongsPinLaw", "ch", "(IIIZIJ)C"⟩ : MethodName)) hown (mvT hZ (hw _ (List.mem_of_getElem? (i := 2) rfl))) (mvT hZ (hw _ (List.mem_of_getElem? (i := 3) rfl))) (mvT hZ (hw _ (List.mem_of_getElem? (i := 4) rfl))) (mvT hZ (hw _ (List.mem_of_getElem? (i := 5) rfl))) (by decide) (backOf (W := 3) (rm1 l Z a0 hw [] (31 : Int32) pp zz az ff vbits  h100 n0 Z100 ) hZ (hw _ (List.mem_of_getElem? (i := 5) rfl)) (hw _ (List.mem_of_getElem? (i := 4) rfl)) (by decide) (by decide)) (g := (mkF m 615 #[.val (.int vlay), .val (.int vend), .val (.int vsc), .val (.long vbits), .second, .val (.int zz), .val (.int az), .val (.int pp), .val (.int ff), .val (.int (Int32.ofNat ne)), .unset, .unset, .unset, .unset, .unset, .unset, .unset] [(.long vbits), (.int ff), (.int az), (.int zz), (.int pp), (.int (31 : Int32)), (.int (31 : Int32)), (.ref b7), (.ref b7)])) rfl (by rw [hml]; rfl) (argsL := [(.int (31 : Int32)), (.int pp), (.int zz), (.int az), (.int ff), (.long vbits)]) (rest := [(.int (31 : Int32)), (.ref b7), (.ref b7)]) (lenOf pd_4 rfl) rfl (by show 2 * 0 + _ ≤ _; exact Nat.le_of_eq rfl) (hb hby at_615) (fun _ _ => ⟨rfl, e100, (by decide : 1 + 0 ≤ _), (by decide : 44 + 0 ≤ _)⟩)
  dsimp only [Pt.U, Pt.locs, Pt.cells, Pt.slots] at X101 l101 y101 z101 st101 hQ101
  obtain rfl : k101 = 1 := y101; obtain rfl : n101 = 44 := z101
  obtain ⟨rfl, N101q, e101q⟩ := hQ101
  have N101 : Fr n0 L101 := Eq.mpr (congrArg (Fr n0) l101) (Fr.app N100 N101q)
  obtain ⟨cl102, Ar102, q102, S102, NN102, HH102, GG102⟩ := id V100
  have hin102 : ¬ ((31 : Int32) < 0 ∨ cl102.slots.size ≤ ((31 : Int32)).toNatClampNeg) := inb_of S102 ⟨by decide, by decide⟩
  obtain ⟨T103, h103, X103, e103, W103, st103⟩ := stC X101 hx hZ e101q Ar102 (j := (31 : Int32)) hin102  (g := (mkF m 618 #[.val (.int vlay), .val (.int vend), .val (.int vsc), .val (.long vbits), .second, .val (.int zz), .val (.int az), .val (.int pp), .val (.int ff), .val (.int (Int32.ofNat ne)), .unset, .unset, .unset, .unset, .unset, .unset, .unset] [(.int (own_ch (31 : Int32) pp zz az ff vbits)), (.int (31 : Int32)), (.ref b7), (.ref b7)])) rfl rfl (hb hby at_618)
  have V103 : Arv Z h103 b7 k7 .char (44 : Int32) (own_fill (own_f pp zz az ff vbits) 32) (.int (0 : Int32)) := own_arv_eq (own_fill_set (f := (own_f pp zz az ff vbits)) (k := 31) (v := (own_f pp zz az ff vbits) 31) (by decide) rfl rfl) (Arv.set Ar102 q102 S102 NN102 HH102 GG102 (fits_nar_char _) W103 31 rfl (by rw [own_fill_len]; decide))
  have Z103 : n0 ≤ h103.size := Nat.le_trans Z100 (Keep.of_wr W103).1
  have N103 := Fr.snoc X103 N101 g_b7
  have K103 : Keep h0 h103 [] := K100.wr W103 (Or.inr sz_b7)
  obtain ⟨_, _, ⟨T104, L104, k104, n104⟩, -, X104, ⟨Lc104, hQ104, l104, y104, z104⟩, st104⟩ := Jvm.LawKit.callS X103 hx (y := (⟨"com/example/paniere/paniere/DigitsInTwoLongsPinLaw", "ch", "(IIIZIJ)C"⟩ : MethodName)) hown (mvT hZ (hw _ (List.mem_of_getElem? (i := 2) rfl))) (mvT hZ (hw _ (List.mem_of_getElem? (i := 3) rfl))) (mvT hZ (hw _ (List.mem_of_getElem? (i := 4) rfl))) (mvT hZ (hw _ (List.mem_of_getElem? (i := 5) rfl))) (by decide) (backOf (W := 3) (rm1 l Z a0 hw [] (32 : Int32) pp zz az ff vbits  h103 n0 Z103 ) hZ (hw _ (List.mem_of_getElem? (i := 5) rfl)) (hw _ (List.mem_of_getElem? (i := 4) rfl)) (by decide) (by decide)) (g := (mkF m 633 #[.val (.int vlay), .val (.int vend), .val (.int vsc), .val (.long vbits), .second, .val (.int zz), .val (.int az), .val (.int pp), .val (.int ff), .val (.int (Int32.ofNat ne)), .unset, .unset, .unset, .unset, .unset, .unset, .unset] [(.long vbits), (.int ff), (.int az), (.int zz), (.int pp), (.int (32 : Int32)), (.int (32 : Int32)), (.ref b7), (.ref b7)])) rfl (by rw [hml]; rfl) (argsL := [(.int (32 : Int32)), (.int pp), (.int zz), (.int az), (.int ff), (.long vbits)]) (rest := [(.int (32 : Int32)), (.ref b7), (.ref b7)]) (lenOf pd_4 rfl) rfl (by show 2 * 0 + _ ≤ _; exact Nat.le_of_eq rfl) (hb hby at_633) (fun _ _ => ⟨rfl, e103, (by decide : 1 + 0 ≤ _), (by decide : 44 + 0 ≤ _)⟩)
  dsimp only [Pt.U, Pt.locs, Pt.cells, Pt.slots] at X104 l104 y104 z104 st104 hQ104
  obtain rfl : k104 = 1 := y104; obtain rfl : n104 = 44 := z104
  obtain ⟨rfl, N104q, e104q⟩ := hQ104
  have N104 : Fr n0 L104 := Eq.mpr (congrArg (Fr n0) l104) (Fr.app N103 N104q)
  obtain ⟨cl105, Ar105, q105, S105, NN105, HH105, GG105⟩ := id V103
  have hin105 : ¬ ((32 : Int32) < 0 ∨ cl105.slots.size ≤ ((32 : Int32)).toNatClampNeg) := inb_of S105 ⟨by decide, by decide⟩
  obtain ⟨T106, h106, X106, e106, W106, st106⟩ := stC X104 hx hZ e104q Ar105 (j := (32 : Int32)) hin105  (g := (mkF m 636 #[.val (.int vlay), .val (.int vend), .val (.int vsc), .val (.long vbits), .second, .val (.int zz), .val (.int az), .val (.int pp), .val (.int ff), .val (.int (Int32.ofNat ne)), .unset, .unset, .unset, .unset, .unset, .unset, .unset] [(.int (own_ch (32 : Int32) pp zz az ff vbits)), (.int (32 : Int32)), (.ref b7), (.ref b7)])) rfl rfl (hb hby at_636)
  have V106 : Arv Z h106 b7 k7 .char (44 : Int32) (own_fill (own_f pp zz az ff vbits) 33) (.int (0 : Int32)) := own_arv_eq (own_fill_set (f := (own_f pp zz az ff vbits)) (k := 32) (v := (own_f pp zz az ff vbits) 32) (by decide) rfl rfl) (Arv.set Ar105 q105 S105 NN105 HH105 GG105 (fits_nar_char _) W106 32 rfl (by rw [own_fill_len]; decide))
  have Z106 : n0 ≤ h106.size := Nat.le_trans Z103 (Keep.of_wr W106).1
  have N106 := Fr.snoc X106 N104 g_b7
  have K106 : Keep h0 h106 [] := K103.wr W106 (Or.inr sz_b7)
  obtain ⟨_, _, ⟨T107, L107, k107, n107⟩, -, X107, ⟨Lc107, hQ107, l107, y107, z107⟩, st107⟩ := Jvm.LawKit.callS X106 hx (y := (⟨"com/example/paniere/paniere/DigitsInTwoLongsPinLaw", "ch", "(IIIZIJ)C"⟩ : MethodName)) hown (mvT hZ (hw _ (List.mem_of_getElem? (i := 2) rfl))) (mvT hZ (hw _ (List.mem_of_getElem? (i := 3) rfl))) (mvT hZ (hw _ (List.mem_of_getElem? (i := 4) rfl))) (mvT hZ (hw _ (List.mem_of_getElem? (i := 5) rfl))) (by decide) (backOf (W := 3) (rm1 l Z a0 hw [] (33 : Int32) pp zz az ff vbits  h106 n0 Z106 ) hZ (hw _ (List.mem_of_getElem? (i := 5) rfl)) (hw _ (List.mem_of_getElem? (i := 4) rfl)) (by decide) (by decide)) (g := (mkF m 651 #[.val (.int vlay), .val (.int vend), .val (.int vsc), .val (.long vbits), .second, .val (.int zz), .val (.int az), .val (.int pp), .val (.int ff), .val (.int (Int32.ofNat ne)), .unset, .unset, .unset, .unset, .unset, .unset, .unset] [(.long vbits), (.int ff), (.int az), (.int zz), (.int pp), (.int (33 : Int32)), (.int (33 : Int32)), (.ref b7), (.ref b7)])) rfl (by rw [hml]; rfl) (argsL := [(.int (33 : Int32)), (.int pp), (.int zz), (.int az), (.int ff), (.long vbits)]) (rest := [(.int (33 : Int32)), (.ref b7), (.ref b7)]) (lenOf pd_4 rfl) rfl (by show 2 * 0 + _ ≤ _; exact Nat.le_of_eq rfl) (hb hby at_651) (fun _ _ => ⟨rfl, e106, (by decide : 1 + 0 ≤ _), (by decide : 44 + 0 ≤ _)⟩)
  dsimp only [Pt.U, Pt.locs, Pt.cells, Pt.slots] at X107 l107 y107 z107 st107 hQ107
  obtain rfl : k107 = 1 := y107; obtain rfl : n107 = 44 := z107
  obtain ⟨rfl, N107q, e107q⟩ := hQ107
  have N107 : Fr n0 L107 := Eq.mpr (congrArg (Fr n0) l107) (Fr.app N106 N107q)
  obtain ⟨cl108, Ar108, q108, S108, NN108, HH108, GG108⟩ := id V106
  have hin108 : ¬ ((33 : Int32) < 0 ∨ cl108.slots.size ≤ ((33 : Int32)).toNatClampNeg) := inb_of S108 ⟨by decide, by decide⟩
  obtain ⟨T109, h109, X109, e109, W109, st109⟩ := stC X107 hx hZ e107q Ar108 (j := (33 : Int32)) hin108  (g := (mkF m 654 #[.val (.int vlay), .val (.int vend), .val (.int vsc), .val (.long vbits), .second, .val (.int zz), .val (.int az), .val (.int pp), .val (.int ff), .val (.int (Int32.ofNat ne)), .unset, .unset, .unset, .unset, .unset, .unset, .unset] [(.int (own_ch (33 : Int32) pp zz az ff vbits)), (.int (33 : Int32)), (.ref b7), (.ref b7)])) rfl rfl (hb hby at_654)
  have V109 : Arv Z h109 b7 k7 .char (44 : Int32) (own_fill (own_f pp zz az ff vbits) 34) (.int (0 : Int32)) := own_arv_eq (own_fill_set (f := (own_f pp zz az ff vbits)) (k := 33) (v := (own_f pp zz az ff vbits) 33) (by decide) rfl rfl) (Arv.set Ar108 q108 S108 NN108 HH108 GG108 (fits_nar_char _) W109 33 rfl (by rw [own_fill_len]; decide))
  have Z109 : n0 ≤ h109.size := Nat.le_trans Z106 (Keep.of_wr W109).1
  have N109 := Fr.snoc X109 N107 g_b7
  have K109 : Keep h0 h109 [] := K106.wr W109 (Or.inr sz_b7)
  obtain ⟨_, _, ⟨T110, L110, k110, n110⟩, -, X110, ⟨Lc110, hQ110, l110, y110, z110⟩, st110⟩ := Jvm.LawKit.callS X109 hx (y := (⟨"com/example/paniere/paniere/DigitsInTwoLongsPinLaw", "ch", "(IIIZIJ)C"⟩ : MethodName)) hown (mvT hZ (hw _ (List.mem_of_getElem? (i := 2) rfl))) (mvT hZ (hw _ (List.mem_of_getElem? (i := 3) rfl))) (mvT hZ (hw _ (List.mem_of_getElem? (i := 4) rfl))) (mvT hZ (hw _ (List.mem_of_getElem? (i := 5) rfl))) (by decide) (backOf (W := 3) (rm1 l Z a0 hw [] (34 : Int32) pp zz az ff vbits  h109 n0 Z109 ) hZ (hw _ (List.mem_of_getElem? (i := 5) rfl)) (hw _ (List.mem_of_getElem? (i := 4) rfl)) (by decide) (by decide)) (g := (mkF m 669 #[.val (.int vlay), .val (.int vend), .val (.int vsc), .val (.long vbits), .second, .val (.int zz), .val (.int az), .val (.int pp), .val (.int ff), .val (.int (Int32.ofNat ne)), .unset, .unset, .unset, .unset, .unset, .unset, .unset] [(.long vbits), (.int ff), (.int az), (.int zz), (.int pp), (.int (34 : Int32)), (.int (34 : Int32)), (.ref b7), (.ref b7)])) rfl (by rw [hml]; rfl) (argsL := [(.int (34 : Int32)), (.int pp), (.int zz), (.int az), (.int ff), (.long vbits)]) (rest := [(.int (34 : Int32)), (.ref b7), (.ref b7)]) (lenOf pd_4 rfl) rfl (by show 2 * 0 + _ ≤ _; exact Nat.le_of_eq rfl) (hb hby at_669) (fun _ _ => ⟨rfl, e109, (by decide : 1 + 0 ≤ _), (by decide : 44 + 0 ≤ _)⟩)
  dsimp only [Pt.U, Pt.locs, Pt.cells, Pt.slots] at X110 l110 y110 z110 st110 hQ110
  obtain rfl : k110 = 1 := y110; obtain rfl : n110 = 44 := z110
  obtain ⟨rfl, N110q, e110q⟩ := hQ110
  have N110 : Fr n0 L110 := Eq.mpr (congrArg (Fr n0) l110) (Fr.app N109 N110q)
  obtain ⟨cl111, Ar111, q111, S111, NN111, HH111, GG111⟩ := id V109
  have hin111 : ¬ ((34 : Int32) < 0 ∨ cl111.slots.size ≤ ((34 : Int32)).toNatClampNeg) := inb_of S111 ⟨by decide, by decide⟩
  obtain ⟨T112, h112, X112, e112, W112, st112⟩ := stC X110 hx hZ e110q Ar111 (j := (34 : Int32)) hin111  (g := (mkF m 672 #[.val (.int vlay), .val (.int vend), .val (.int vsc), .val (.long vbits), .second, .val (.int zz), .val (.int az), .val (.int pp), .val (.int ff), .val (.int (Int32.ofNat ne)), .unset, .unset, .unset, .unset, .unset, .unset, .unset] [(.int (own_ch (34 : Int32) pp zz az ff vbits)), (.int (34 : Int32)), (.ref b7), (.ref b7)])) rfl rfl (hb hby at_672)
  have V112 : Arv Z h112 b7 k7 .char (44 : Int32) (own_fill (own_f pp zz az ff vbits) 35) (.int (0 : Int32)) := own_arv_eq (own_fill_set (f := (own_f pp zz az ff vbits)) (k := 34) (v := (own_f pp zz az ff vbits) 34) (by decide) rfl rfl) (Arv.set Ar111 q111 S111 NN111 HH111 GG111 (fits_nar_char _) W112 34 rfl (by rw [own_fill_len]; decide))
  have Z112 : n0 ≤ h112.size := Nat.le_trans Z109 (Keep.of_wr W112).1
  have N112 := Fr.snoc X112 N110 g_b7
  have K112 : Keep h0 h112 [] := K109.wr W112 (Or.inr sz_b7)
  obtain ⟨_, _, ⟨T113, L113, k113, n113⟩, -, X113, ⟨Lc113, hQ113, l113, y113, z113⟩, st113⟩ := Jvm.LawKit.callS X112 hx (y := (⟨"com/example/paniere/paniere/DigitsInTwoLongsPinLaw", "ch", "(IIIZIJ)C"⟩ : MethodName)) hown (mvT hZ (hw _ (List.mem_of_getElem? (i := 2) rfl))) (mvT hZ (hw _ (List.mem_of_getElem? (i := 3) rfl))) (mvT hZ (hw _ (List.mem_of_getElem? (i := 4) rfl))) (mvT hZ (hw _ (List.mem_of_getElem? (i := 5) rfl))) (by decide) (backOf (W := 3) (rm1 l Z a0 hw [] (35 : Int32) pp zz az ff vbits  h112 n0 Z112 ) hZ (hw _ (List.mem_of_getElem? (i := 5) rfl)) (hw _ (List.mem_of_getElem? (i := 4) rfl)) (by decide) (by decide)) (g := (mkF m 687 #[.val (.int vlay), .val (.int vend), .val (.int vsc), .val (.long vbits), .second, .val (.int zz), .val (.int az), .val (.int pp), .val (.int ff), .val (.int (Int32.ofNat ne)), .unset, .unset, .unset, .unset, .unset, .unset, .unset] [(.long vbits), (.int ff), (.int az), (.int zz), (.int pp), (.int (35 : Int32)), (.int (35 : Int32)), (.ref b7), (.ref b7)])) rfl (by rw [hml]; rfl) (argsL := [(.int (35 : Int32)), (.int pp), (.int zz), (.int az), (.int ff), (.long vbits)]) (rest := [(.int (35 : Int32)), (.ref b7), (.ref b7)]) (lenOf pd_4 rfl) rfl (by show 2 * 0 + _ ≤ _; exact Nat.le_of_eq rfl) (hb hby at_687) (fun _ _ => ⟨rfl, e112, (by decide : 1 + 0 ≤ _), (by decide : 44 + 0 ≤ _)⟩)
  dsimp only [Pt.U, Pt.locs, Pt.cells, Pt.slots] at X113 l113 y113 z113 st113 hQ113
  obtain rfl : k113 = 1 := y113; obtain rfl : n113 = 44 := z113
  obtain ⟨rfl, N113q, e113q⟩ := hQ113
  have N113 : Fr n0 L113 := Eq.mpr (congrArg (Fr n0) l113) (Fr.app N112 N113q)
  obtain ⟨cl114, Ar114, q114, S114, NN114, HH114, GG114⟩ := id V112
  have hin114 : ¬ ((35 : Int32) < 0 ∨ cl114.slots.size ≤ ((35 : Int32)).toNatClampNeg) := inb_of S114 ⟨by decide, by decide⟩
  obtain ⟨T115, h115, X115, e115, W115, st115⟩ := stC X113 hx hZ e113q Ar114 (j := (35 : Int32)) hin114  (g := (mkF m 690 #[.val (.int vlay), .val (.int vend), .val (.int vsc), .val (.long vbits), .second, .val (.int zz), .val (.int az), .val (.int pp), .val (.int ff), .val (.int (Int32.ofNat ne)), .unset, .unset, .unset, .unset, .unset, .unset, .unset] [(.int (own_ch (35 : Int32) pp zz az ff vbits)), (.int (35 : Int32)), (.ref b7), (.ref b7)])) rfl rfl (hb hby at_690)
  have V115 : Arv Z h115 b7 k7 .char (44 : Int32) (own_fill (own_f pp zz az ff vbits) 36) (.int (0 : Int32)) := own_arv_eq (own_fill_set (f := (own_f pp zz az ff vbits)) (k := 35) (v := (own_f pp zz az ff vbits) 35) (by decide) rfl rfl) (Arv.set Ar114 q114 S114 NN114 HH114 GG114 (fits_nar_char _) W115 35 rfl (by rw [own_fill_len]; decide))
  have Z115 : n0 ≤ h115.size := Nat.le_trans Z112 (Keep.of_wr W115).1
  have N115 := Fr.snoc X115 N113 g_b7
  have K115 : Keep h0 h115 [] := K112.wr W115 (Or.inr sz_b7)
  obtain ⟨_, _, ⟨T116, L116, k116, n116⟩, -, X116, ⟨Lc116, hQ116, l116, y116, z116⟩, st116⟩ := Jvm.LawKit.callS X115 hx (y := (⟨"com/example/paniere/paniere/DigitsInTwoLongsPinLaw", "ch", "(IIIZIJ)C"⟩ : MethodName)) hown (mvT hZ (hw _ (List.mem_of_getElem? (i := 2) rfl))) (mvT hZ (hw _ (List.mem_of_getElem? (i := 3) rfl))) (mvT hZ (hw _ (List.mem_of_getElem? (i := 4) rfl))) (mvT hZ (hw _ (List.mem_of_getElem? (i := 5) rfl))) (by decide) (backOf (W := 3) (rm1 l Z a0 hw [] (36 : Int32) pp zz az ff vbits  h115 n0 Z115 ) hZ (hw _ (List.mem_of_getElem? (i := 5) rfl)) (hw _ (List.mem_of_getElem? (i := 4) rfl)) (by decide) (by decide)) (g := (mkF m 705 #[.val (.int vlay), .val (.int vend), .val (.int vsc), .val (.long vbits), .second, .val (.int zz), .val (.int az), .val (.int pp), .val (.int ff), .val (.int (Int32.ofNat ne)), .unset, .unset, .unset, .unset, .unset, .unset, .unset] [(.long vbits), (.int ff), (.int az), (.int zz), (.int pp), (.int (36 : Int32)), (.int (36 : Int32)), (.ref b7), (.ref b7)])) rfl (by rw [hml]; rfl) (argsL := [(.int (36 : Int32)), (.int pp), (.int zz), (.int az), (.int ff), (.long vbits)]) (rest := [(.int (36 : Int32)), (.ref b7), (.ref b7)]) (lenOf pd_4 rfl) rfl (by show 2 * 0 + _ ≤ _; exact Nat.le_of_eq rfl) (hb hby at_705) (fun _ _ => ⟨rfl, e115, (by decide : 1 + 0 ≤ _), (by decide : 44 + 0 ≤ _)⟩)
  dsimp only [Pt.U, Pt.locs, Pt.cells, Pt.slots] at X116 l116 y116 z116 st116 hQ116
  obtain rfl : k116 = 1 := y116; obtain rfl : n116 = 44 := z116
  obtain ⟨rfl, N116q, e116q⟩ := hQ116
  have N116 : Fr n0 L116 := Eq.mpr (congrArg (Fr n0) l116) (Fr.app N115 N116q)
  obtain ⟨cl117, Ar117, q117, S117, NN117, HH117, GG117⟩ := id V115
  have hin117 : ¬ ((36 : Int32) < 0 ∨ cl117.slots.size ≤ ((36 : Int32)).toNatClampNeg) := inb_of S117 ⟨by decide, by decide⟩
  obtain ⟨T118, h118, X118, e118, W118, st118⟩ := stC X116 hx hZ e116q Ar117 (j := (36 : Int32)) hin117  (g := (mkF m 708 #[.val (.int vlay), .val (.int vend), .val (.int vsc), .val (.long vbits), .second, .val (.int zz), .val (.int az), .val (.int pp), .val (.int ff), .val (.int (Int32.ofNat ne)), .unset, .unset, .unset, .unset, .unset, .unset, .unset] [(.int (own_ch (36 : Int32) pp zz az ff vbits)), (.int (36 : Int32)), (.ref b7), (.ref b7)])) rfl rfl (hb hby at_708)
  have V118 : Arv Z h118 b7 k7 .char (44 : Int32) (own_fill (own_f pp zz az ff vbits) 37) (.int (0 : Int32)) := own_arv_eq (own_fill_set (f := (own_f pp zz az ff vbits)) (k := 36) (v := (own_f pp zz az ff vbits) 36) (by decide) rfl rfl) (Arv.set Ar117 q117 S117 NN117 HH117 GG117 (fits_nar_char _) W118 36 rfl (by rw [own_fill_len]; decide))
  have Z118 : n0 ≤ h118.size := Nat.le_trans Z115 (Keep.of_wr W118).1
  have N118 := Fr.snoc X118 N116 g_b7
  have K118 : Keep h0 h118 [] := K115.wr W118 (Or.inr sz_b7)
  obtain ⟨_, _, ⟨T119, L119, k119, n119⟩, -, X119, ⟨Lc119, hQ119, l119, y119, z119⟩, st119⟩ := Jvm.LawKit.callS X118 hx (y := (⟨"com/example/paniere/paniere/DigitsInTwoLongsPinLaw", "ch", "(IIIZIJ)C"⟩ : MethodName)) hown (mvT hZ (hw _ (List.mem_of_getElem? (i := 2) rfl))) (mvT hZ (hw _ (List.mem_of_getElem? (i := 3) rfl))) (mvT hZ (hw _ (List.mem_of_getElem? (i := 4) rfl))) (mvT hZ (hw _ (List.mem_of_getElem? (i := 5) rfl))) (by decide) (backOf (W := 3) (rm1 l Z a0 hw [] (37 : Int32) pp zz az ff vbits  h118 n0 Z118 ) hZ (hw _ (List.mem_of_getElem? (i := 5) rfl)) (hw _ (List.mem_of_getElem? (i := 4) rfl)) (by decide) (by decide)) (g := (mkF m 723 #[.val (.int vlay), .val (.int vend), .val (.int vsc), .val (.long vbits), .second, .val (.int zz), .val (.int az), .val (.int pp), .val (.int ff), .val (.int (Int32.ofNat ne)), .unset, .unset, .unset, .unset, .unset, .unset, .unset] [(.long vbits), (.int ff), (.int az), (.int zz), (.int pp), (.int (37 : Int32)), (.int (37 : Int32)), (.ref b7), (.ref b7)])) rfl (by rw [hml]; rfl) (argsL := [(.int (37 : Int32)), (.int pp), (.int zz), (.int az), (.int ff), (.long vbits)]) (rest := [(.int (37 : Int32)), (.ref b7), (.ref b7)]) (lenOf pd_4 rfl) rfl (by show 2 * 0 + _ ≤ _; exact Nat.le_of_eq rfl) (hb hby at_723) (fun _ _ => ⟨rfl, e118, (by decide : 1 + 0 ≤ _), (by decide : 44 + 0 ≤ _)⟩)
  dsimp only [Pt.U, Pt.locs, Pt.cells, Pt.slots] at X119 l119 y119 z119 st119 hQ119
  obtain rfl : k119 = 1 := y119; obtain rfl : n119 = 44 := z119
  obtain ⟨rfl, N119q, e119q⟩ := hQ119
  have N119 : Fr n0 L119 := Eq.mpr (congrArg (Fr n0) l119) (Fr.app N118 N119q)
  obtain ⟨cl120, Ar120, q120, S120, NN120, HH120, GG120⟩ := id V118
  have hin120 : ¬ ((37 : Int32) < 0 ∨ cl120.slots.size ≤ ((37 : Int32)).toNatClampNeg) := inb_of S120 ⟨by decide, by decide⟩
  obtain ⟨T121, h121, X121, e121, W121, st121⟩ := stC X119 hx hZ e119q Ar120 (j := (37 : Int32)) hin120  (g := (mkF m 726 #[.val (.int vlay), .val (.int vend), .val (.int vsc), .val (.long vbits), .second, .val (.int zz), .val (.int az), .val (.int pp), .val (.int ff), .val (.int (Int32.ofNat ne)), .unset, .unset, .unset, .unset, .unset, .unset, .unset] [(.int (own_ch (37 : Int32) pp zz az ff vbits)), (.int (37 : Int32)), (.ref b7), (.ref b7)])) rfl rfl (hb hby at_726)
  have V121 : Arv Z h121 b7 k7 .char (44 : Int32) (own_fill (own_f pp zz az ff vbits) 38) (.int (0 : Int32)) := own_arv_eq (own_fill_set (f := (own_f pp zz az ff vbits)) (k := 37) (v := (own_f pp zz az ff vbits) 37) (by decide) rfl rfl) (Arv.set Ar120 q120 S120 NN120 HH120 GG120 (fits_nar_char _) W121 37 rfl (by rw [own_fill_len]; decide))
  have Z121 : n0 ≤ h121.size := Nat.le_trans Z118 (Keep.of_wr W121).1
  have N121 := Fr.snoc X121 N119 g_b7
  have K121 : Keep h0 h121 [] := K118.wr W121 (Or.inr sz_b7)
  obtain ⟨_, _, ⟨T122, L122, k122, n122⟩, -, X122, ⟨Lc122, hQ122, l122, y122, z122⟩, st122⟩ := Jvm.LawKit.callS X121 hx (y := (⟨"com/example/paniere/paniere/DigitsInTwoLongsPinLaw", "ch", "(IIIZIJ)C"⟩ : MethodName)) hown (mvT hZ (hw _ (List.mem_of_getElem? (i := 2) rfl))) (mvT hZ (hw _ (List.mem_of_getElem? (i := 3) rfl))) (mvT hZ (hw _ (List.mem_of_getElem? (i := 4) rfl))) (mvT hZ (hw _ (List.mem_of_getElem? (i := 5) rfl))) (by decide) (backOf (W := 3) (rm1 l Z a0 hw [] (38 : Int32) pp zz az ff vbits  h121 n0 Z121 ) hZ (hw _ (List.mem_of_getElem? (i := 5) rfl)) (hw _ (List.mem_of_getElem? (i := 4) rfl)) (by decide) (by decide)) (g := (mkF m 741 #[.val (.int vlay), .val (.int vend), .val (.int vsc), .val (.long vbits), .second, .val (.int zz), .val (.int az), .val (.int pp), .val (.int ff), .val (.int (Int32.ofNat ne)), .unset, .unset, .unset, .unset, .unset, .unset, .unset] [(.long vbits), (.int ff), (.int az), (.int zz), (.int pp), (.int (38 : Int32)), (.int (38 : Int32)), (.ref b7), (.ref b7)])) rfl (by rw [hml]; rfl) (argsL := [(.int (38 : Int32)), (.int pp), (.int zz), (.int az), (.int ff), (.long vbits)]) (rest := [(.int (38 : Int32)), (.ref b7), (.ref b7)]) (lenOf pd_4 rfl) rfl (by show 2 * 0 + _ ≤ _; exact Nat.le_of_eq rfl) (hb hby at_741) (fun _ _ => ⟨rfl, e121, (by decide : 1 + 0 ≤ _), (by decide : 44 + 0 ≤ _)⟩)
  dsimp only [Pt.U, Pt.locs, Pt.cells, Pt.slots] at X122 l122 y122 z122 st122 hQ122
  obtain rfl : k122 = 1 := y122; obtain rfl : n122 = 44 := z122
  obtain ⟨rfl, N122q, e122q⟩ := hQ122
  have N122 : Fr n0 L122 := Eq.mpr (congrArg (Fr n0) l122) (Fr.app N121 N122q)
  obtain ⟨cl123, Ar123, q123, S123, NN123, HH123, GG123⟩ := id V121
  have hin123 : ¬ ((38 : Int32) < 0 ∨ cl123.slots.size ≤ ((38 : Int32)).toNatClampNeg) := inb_of S123 ⟨by decide, by decide⟩
  obtain ⟨T124, h124, X124, e124, W124, st124⟩ := stC X122 hx hZ e122q Ar123 (j := (38 : Int32)) hin123  (g := (mkF m 744 #[.val (.int vlay), .val (.int vend), .val (.int vsc), .val (.long vbits), .second, .val (.int zz), .val (.int az), .val (.int pp), .val (.int ff), .val (.int (Int32.ofNat ne)), .unset, .unset, .unset, .unset, .unset, .unset, .unset] [(.int (own_ch (38 : Int32) pp zz az ff vbits)), (.int (38 : Int32)), (.ref b7), (.ref b7)])) rfl rfl (hb hby at_744)
  have V124 : Arv Z h124 b7 k7 .char (44 : Int32) (own_fill (own_f pp zz az ff vbits) 39) (.int (0 : Int32)) := own_arv_eq (own_fill_set (f := (own_f pp zz az ff vbits)) (k := 38) (v := (own_f pp zz az ff vbits) 38) (by decide) rfl rfl) (Arv.set Ar123 q123 S123 NN123 HH123 GG123 (fits_nar_char _) W124 38 rfl (by rw [own_fill_len]; decide))
  have Z124 : n0 ≤ h124.size := Nat.le_trans Z121 (Keep.of_wr W124).1
  have N124 := Fr.snoc X124 N122 g_b7
  have K124 : Keep h0 h124 [] := K121.wr W124 (Or.inr sz_b7)
  obtain ⟨_, _, ⟨T125, L125, k125, n125⟩, -, X125, ⟨Lc125, hQ125, l125, y125, z125⟩, st125⟩ := Jvm.LawKit.callS X124 hx (y := (⟨"com/example/paniere/paniere/DigitsInTwoLongsPinLaw", "ch", "(IIIZIJ)C"⟩ : MethodName)) hown (mvT hZ (hw _ (List.mem_of_getElem? (i := 2) rfl))) (mvT hZ (hw _ (List.mem_of_getElem? (i := 3) rfl))) (mvT hZ (hw _ (List.mem_of_getElem? (i := 4) rfl))) (mvT hZ (hw _ (List.mem_of_getElem? (i := 5) rfl))) (by decide) (backOf (W := 3) (rm1 l Z a0 hw [] (39 : Int32) pp zz az ff vbits  h124 n0 Z124 ) hZ (hw _ (List.mem_of_getElem? (i := 5) rfl)) (hw _ (List.mem_of_getElem? (i := 4) rfl)) (by decide) (by decide)) (g := (mkF m 759 #[.val (.int vlay), .val (.int vend), .val (.int vsc), .val (.long vbits), .second, .val (.int zz), .val (.int az), .val (.int pp), .val (.int ff), .val (.int (Int32.ofNat ne)), .unset, .unset, .unset, .unset, .unset, .unset, .unset] [(.long vbits), (.int ff), (.int az), (.int zz), (.int pp), (.int (39 : Int32)), (.int (39 : Int32)), (.ref b7), (.ref b7)])) rfl (by rw [hml]; rfl) (argsL := [(.int (39 : Int32)), (.int pp), (.int zz), (.int az), (.int ff), (.long vbits)]) (rest := [(.int (39 : Int32)), (.ref b7), (.ref b7)]) (lenOf pd_4 rfl) rfl (by show 2 * 0 + _ ≤ _; exact Nat.le_of_eq rfl) (hb hby at_759) (fun _ _ => ⟨rfl, e124, (by decide : 1 + 0 ≤ _), (by decide : 44 + 0 ≤ _)⟩)
  dsimp only [Pt.U, Pt.locs, Pt.cells, Pt.slots] at X125 l125 y125 z125 st125 hQ125
  obtain rfl : k125 = 1 := y125; obtain rfl : n125 = 44 := z125
  obtain ⟨rfl, N125q, e125q⟩ := hQ125
  have N125 : Fr n0 L125 := Eq.mpr (congrArg (Fr n0) l125) (Fr.app N124 N125q)
  obtain ⟨cl126, Ar126, q126, S126, NN126, HH126, GG126⟩ := id V124
  have hin126 : ¬ ((39 : Int32) < 0 ∨ cl126.slots.size ≤ ((39 : Int32)).toNatClampNeg) := inb_of S126 ⟨by decide, by decide⟩
  obtain ⟨T127, h127, X127, e127, W127, st127⟩ := stC X125 hx hZ e125q Ar126 (j := (39 : Int32)) hin126  (g := (mkF m 762 #[.val (.int vlay), .val (.int vend), .val (.int vsc), .val (.long vbits), .second, .val (.int zz), .val (.int az), .val (.int pp), .val (.int ff), .val (.int (Int32.ofNat ne)), .unset, .unset, .unset, .unset, .unset, .unset, .unset] [(.int (own_ch (39 : Int32) pp zz az ff vbits)), (.int (39 : Int32)), (.ref b7), (.ref b7)])) rfl rfl (hb hby at_762)
  have V127 : Arv Z h127 b7 k7 .char (44 : Int32) (own_fill (own_f pp zz az ff vbits) 40) (.int (0 : Int32)) := own_arv_eq (own_fill_set (f := (own_f pp zz az ff vbits)) (k := 39) (v := (own_f pp zz az ff vbits) 39) (by decide) rfl rfl) (Arv.set Ar126 q126 S126 NN126 HH126 GG126 (fits_nar_char _) W127 39 rfl (by rw [own_fill_len]; decide))
  have Z127 : n0 ≤ h127.size := Nat.le_trans Z124 (Keep.of_wr W127).1
  have N127 := Fr.snoc X127 N125 g_b7
  have K127 : Keep h0 h127 [] := K124.wr W127 (Or.inr sz_b7)
  obtain ⟨_, _, ⟨T128, L128, k128, n128⟩, -, X128, ⟨Lc128, hQ128, l128, y128, z128⟩, st128⟩ := Jvm.LawKit.callS X127 hx (y := (⟨"com/example/paniere/paniere/DigitsInTwoLongsPinLaw", "ch", "(IIIZIJ)C"⟩ : MethodName)) hown (mvT hZ (hw _ (List.mem_of_getElem? (i := 2) rfl))) (mvT hZ (hw _ (List.mem_of_getElem? (i := 3) rfl))) (mvT hZ (hw _ (List.mem_of_getElem? (i := 4) rfl))) (mvT hZ (hw _ (List.mem_of_getElem? (i := 5) rfl))) (by decide) (backOf (W := 3) (rm1 l Z a0 hw [] (40 : Int32) pp zz az ff vbits  h127 n0 Z127 ) hZ (hw _ (List.mem_of_getElem? (i := 5) rfl)) (hw _ (List.mem_of_getElem? (i := 4) rfl)) (by decide) (by decide)) (g := (mkF m 777 #[.val (.int vlay), .val (.int vend), .val (.int vsc), .val (.long vbits), .second, .val (.int zz), .val (.int az), .val (.int pp), .val (.int ff), .val (.int (Int32.ofNat ne)), .unset, .unset, .unset, .unset, .unset, .unset, .unset] [(.long vbits), (.int ff), (.int az), (.int zz), (.int pp), (.int (40 : Int32)), (.int (40 : Int32)), (.ref b7), (.ref b7)])) rfl (by rw [hml]; rfl) (argsL := [(.int (40 : Int32)), (.int pp), (.int zz), (.int az), (.int ff), (.long vbits)]) (rest := [(.int (40 : Int32)), (.ref b7), (.ref b7)]) (lenOf pd_4 rfl) rfl (by show 2 * 0 + _ ≤ _; exact Nat.le_of_eq rfl) (hb hby at_777) (fun _ _ => ⟨rfl, e127, (by decide : 1 + 0 ≤ _), (by decide : 44 + 0 ≤ _)⟩)
  dsimp only [Pt.U, Pt.locs, Pt.cells, Pt.slots] at X128 l128 y128 z128 st128 hQ128
  obtain rfl : k128 = 1 := y128; obtain rfl : n128 = 44 := z128
  obtain ⟨rfl, N128q, e128q⟩ := hQ128
  have N128 : Fr n0 L128 := Eq.mpr (congrArg (Fr n0) l128) (Fr.app N127 N128q)
  obtain ⟨cl129, Ar129, q129, S129, NN129, HH129, GG129⟩ := id V127
  have hin129 : ¬ ((40 : Int32) < 0 ∨ cl129.slots.size ≤ ((40 : Int32)).toNatClampNeg) := inb_of S129 ⟨by decide, by decide⟩
  obtain ⟨T130, h130, X130, e130, W130, st130⟩ := stC X128 hx hZ e128q Ar129 (j := (40 : Int32)) hin129  (g := (mkF m 780 #[.val (.int vlay), .val (.int vend), .val (.int vsc), .val (.long vbits), .second, .val (.int zz), .val (.int az), .val (.int pp), .val (.int ff), .val (.int (Int32.ofNat ne)), .unset, .unset, .unset, .unset, .unset, .unset, .unset] [(.int (own_ch (40 : Int32) pp zz az ff vbits)), (.int (40 : Int32)), (.ref b7), (.ref b7)])) rfl rfl (hb hby at_780)
  have V130 : Arv Z h130 b7 k7 .char (44 : Int32) (own_fill (own_f pp zz az ff vbits) 41) (.int (0 : Int32)) := own_arv_eq (own_fill_set (f := (own_f pp zz az ff vbits)) (k := 40) (v := (own_f pp zz az ff vbits) 40) (by decide) rfl rfl) (Arv.set Ar129 q129 S129 NN129 HH129 GG129 (fits_nar_char _) W130 40 rfl (by rw [own_fill_len]; decide))
  have Z130 : n0 ≤ h130.size := Nat.le_trans Z127 (Keep.of_wr W130).1
  have N130 := Fr.snoc X130 N128 g_b7
  have K130 : Keep h0 h130 [] := K127.wr W130 (Or.inr sz_b7)
  obtain ⟨_, _, ⟨T131, L131, k131, n131⟩, -, X131, ⟨Lc131, hQ131, l131, y131, z131⟩, st131⟩ := Jvm.LawKit.callS X130 hx (y := (⟨"com/example/paniere/paniere/DigitsInTwoLongsPinLaw", "ch", "(IIIZIJ)C"⟩ : MethodName)) hown (mvT hZ (hw _ (List.mem_of_getElem? (i := 2) rfl))) (mvT hZ (hw _ (List.mem_of_getElem? (i := 3) rfl))) (mvT hZ (hw _ (List.mem_of_getElem? (i := 4) rfl))) (mvT hZ (hw _ (List.mem_of_getElem? (i := 5) rfl))) (by decide) (backOf (W := 3) (rm1 l Z a0 hw [] (41 : Int32) pp zz az ff vbits  h130 n0 Z130 ) hZ (hw _ (List.mem_of_getElem? (i := 5) rfl)) (hw _ (List.mem_of_getElem? (i := 4) rfl)) (by decide) (by decide)) (g := (mkF m 795 #[.val (.int vlay), .val (.int vend), .val (.int vsc), .val (.long vbits), .second, .val (.int zz), .val (.int az), .val (.int pp), .val (.int ff), .val (.int (Int32.ofNat ne)), .unset, .unset, .unset, .unset, .unset, .unset, .unset] [(.long vbits), (.int ff), (.int az), (.int zz), (.int pp), (.int (41 : Int32)), (.int (41 : Int32)), (.ref b7), (.ref b7)])) rfl (by rw [hml]; rfl) (argsL := [(.int (41 : Int32)), (.int pp), (.int zz), (.int az), (.int ff), (.long vbits)]) (rest := [(.int (41 : Int32)), (.ref b7), (.ref b7)]) (lenOf pd_4 rfl) rfl (by show 2 * 0 + _ ≤ _; exact Nat.le_of_eq rfl) (hb hby at_795) (fun _ _ => ⟨rfl, e130, (by decide : 1 + 0 ≤ _), (by decide : 44 + 0 ≤ _)⟩)
  dsimp only [Pt.U, Pt.locs, Pt.cells, Pt.slots] at X131 l131 y131 z131 st131 hQ131
  obtain rfl : k131 = 1 := y131; obtain rfl : n131 = 44 := z131
  obtain ⟨rfl, N131q, e131q⟩ := hQ131
  have N131 : Fr n0 L131 := Eq.mpr (congrArg (Fr n0) l131) (Fr.app N130 N131q)
  obtain ⟨cl132, Ar132, q132, S132, NN132, HH132, GG132⟩ := id V130
  have hin132 : ¬ ((41 : Int32) < 0 ∨ cl132.slots.size ≤ ((41 : Int32)).toNatClampNeg) := inb_of S132 ⟨by decide, by decide⟩
  obtain ⟨T133, h133, X133, e133, W133, st133⟩ := stC X131 hx hZ e131q Ar132 (j := (41 : Int32)) hin132  (g := (mkF m 798 #[.val (.int vlay), .val (.int vend), .val (.int vsc), .val (.long vbits), .second, .val (.int zz), .val (.int az), .val (.int pp), .val (.int ff), .val (.int (Int32.ofNat ne)), .unset, .unset, .unset, .unset, .unset, .unset, .unset] [(.int (own_ch (41 : Int32) pp zz az ff vbits)), (.int (41 : Int32)), (.ref b7), (.ref b7)])) rfl rfl (hb hby at_798)
  have V133 : Arv Z h133 b7 k7 .char (44 : Int32) (own_fill (own_f pp zz az ff vbits) 42) (.int (0 : Int32)) := own_arv_eq (own_fill_set (f := (own_f pp zz az ff vbits)) (k := 41) (v := (own_f pp zz az ff vbits) 41) (by decide) rfl rfl) (Arv.set Ar132 q132 S132 NN132 HH132 GG132 (fits_nar_char _) W133 41 rfl (by rw [own_fill_len]; decide))
  have Z133 : n0 ≤ h133.size := Nat.le_trans Z130 (Keep.of_wr W133).1
  have N133 := Fr.snoc X133 N131 g_b7
  have K133 : Keep h0 h133 [] := K130.wr W133 (Or.inr sz_b7)
  obtain ⟨_, _, ⟨T134, L134, k134, n134⟩, -, X134, ⟨Lc134, hQ134, l134, y134, z134⟩, st134⟩ := Jvm.LawKit.callS X133 hx (y := (⟨"com/example/paniere/paniere/DigitsInTwoLongsPinLaw", "ch", "(IIIZIJ)C"⟩ : MethodName)) hown (mvT hZ (hw _ (List.mem_of_getElem? (i := 2) rfl))) (mvT hZ (hw _ (List.mem_of_getElem? (i := 3) rfl))) (mvT hZ (hw _ (List.mem_of_getElem? (i := 4) rfl))) (mvT hZ (hw _ (List.mem_of_getElem? (i := 5) rfl))) (by decide) (backOf (W := 3) (rm1 l Z a0 hw [] (42 : Int32) pp zz az ff vbits  h133 n0 Z133 ) hZ (hw _ (List.mem_of_getElem? (i := 5) rfl)) (hw _ (List.mem_of_getElem? (i := 4) rfl)) (by decide) (by decide)) (g := (mkF m 813 #[.val (.int vlay), .val (.int vend), .val (.int vsc), .val (.long vbits), .second, .val (.int zz), .val (.int az), .val (.int pp), .val (.int ff), .val (.int (Int32.ofNat ne)), .unset, .unset, .unset, .unset, .unset, .unset, .unset] [(.long vbits), (.int ff), (.int az), (.int zz), (.int pp), (.int (42 : Int32)), (.int (42 : Int32)), (.ref b7), (.ref b7)])) rfl (by rw [hml]; rfl) (argsL := [(.int (42 : Int32)), (.int pp), (.int zz), (.int az), (.int ff), (.long vbits)]) (rest := [(.int (42 : Int32)), (.ref b7), (.ref b7)]) (lenOf pd_4 rfl) rfl (by show 2 * 0 + _ ≤ _; exact Nat.le_of_eq rfl) (hb hby at_813) (fun _ _ => ⟨rfl, e133, (by decide : 1 + 0 ≤ _), (by decide : 44 + 0 ≤ _)⟩)
  dsimp only [Pt.U, Pt.locs, Pt.cells, Pt.slots] at X134 l134 y134 z134 st134 hQ134
  obtain rfl : k134 = 1 := y134; obtain rfl : n134 = 44 := z134
  obtain ⟨rfl, N134q, e134q⟩ := hQ134
  have N134 : Fr n0 L134 := Eq.mpr (congrArg (Fr n0) l134) (Fr.app N133 N134q)
  obtain ⟨cl135, Ar135, q135, S135, NN135, HH135, GG135⟩ := id V133
  have hin135 : ¬ ((42 : Int32) < 0 ∨ cl135.slots.size ≤ ((42 : Int32)).toNatClampNeg) := inb_of S135 ⟨by decide, by decide⟩
  obtain ⟨T136, h136, X136, e136, W136, st136⟩ := stC X134 hx hZ e134q Ar135 (j := (42 : Int32)) hin135  (g := (mkF m 816 #[.val (.int vlay), .val (.int vend), .val (.int vsc), .val (.long vbits), .second, .val (.int zz), .val (.int az), .val (.int pp), .val (.int ff), .val (.int (Int32.ofNat ne)), .unset, .unset, .unset, .unset, .unset, .unset, .unset] [(.int (own_ch (42 : Int32) pp zz az ff vbits)), (.int (42 : Int32)), (.ref b7), (.ref b7)])) rfl rfl (hb hby at_816)
  have V136 : Arv Z h136 b7 k7 .char (44 : Int32) (own_fill (own_f pp zz az ff vbits) 43) (.int (0 : Int32)) := own_arv_eq (own_fill_set (f := (own_f pp zz az ff vbits)) (k := 42) (v := (own_f pp zz az ff vbits) 42) (by decide) rfl rfl) (Arv.set Ar135 q135 S135 NN135 HH135 GG135 (fits_nar_char _) W136 42 rfl (by rw [own_fill_len]; decide))
  have Z136 : n0 ≤ h136.size := Nat.le_trans Z133 (Keep.of_wr W136).1
  have N136 := Fr.snoc X136 N134 g_b7
  have K136 : Keep h0 h136 [] := K133.wr W136 (Or.inr sz_b7)
  obtain ⟨_, _, ⟨T137, L137, k137, n137⟩, -, X137, ⟨Lc137, hQ137, l137, y137, z137⟩, st137⟩ := Jvm.LawKit.callS X136 hx (y := (⟨"com/example/paniere/paniere/DigitsInTwoLongsPinLaw", "ch", "(IIIZIJ)C"⟩ : MethodName)) hown (mvT hZ (hw _ (List.mem_of_getElem? (i := 2) rfl))) (mvT hZ (hw _ (List.mem_of_getElem? (i := 3) rfl))) (mvT hZ (hw _ (List.mem_of_getElem? (i := 4) rfl))) (mvT hZ (hw _ (List.mem_of_getElem? (i := 5) rfl))) (by decide) (backOf (W := 3) (rm1 l Z a0 hw [] (43 : Int32) pp zz az ff vbits  h136 n0 Z136 ) hZ (hw _ (List.mem_of_getElem? (i := 5) rfl)) (hw _ (List.mem_of_getElem? (i := 4) rfl)) (by decide) (by decide)) (g := (mkF m 831 #[.val (.int vlay), .val (.int vend), .val (.int vsc), .val (.long vbits), .second, .val (.int zz), .val (.int az), .val (.int pp), .val (.int ff), .val (.int (Int32.ofNat ne)), .unset, .unset, .unset, .unset, .unset, .unset, .unset] [(.long vbits), (.int ff), (.int az), (.int zz), (.int pp), (.int (43 : Int32)), (.int (43 : Int32)), (.ref b7), (.ref b7)])) rfl (by rw [hml]; rfl) (argsL := [(.int (43 : Int32)), (.int pp), (.int zz), (.int az), (.int ff), (.long vbits)]) (rest := [(.int (43 : Int32)), (.ref b7), (.ref b7)]) (lenOf pd_4 rfl) rfl (by show 2 * 0 + _ ≤ _; exact Nat.le_of_eq rfl) (hb hby at_831) (fun _ _ => ⟨rfl, e136, (by decide : 1 + 0 ≤ _), (by decide : 44 + 0 ≤ _)⟩)
  dsimp only [Pt.U, Pt.locs, Pt.cells, Pt.slots] at X137 l137 y137 z137 st137 hQ137
  obtain rfl : k137 = 1 := y137; obtain rfl : n137 = 44 := z137
  obtain ⟨rfl, N137q, e137q⟩ := hQ137
  have N137 : Fr n0 L137 := Eq.mpr (congrArg (Fr n0) l137) (Fr.app N136 N137q)
  obtain ⟨cl138, Ar138, q138, S138, NN138, HH138, GG138⟩ := id V136
  have hin138 : ¬ ((43 : Int32) < 0 ∨ cl138.slots.size ≤ ((43 : Int32)).toNatClampNeg) := inb_of S138 ⟨by decide, by decide⟩
  obtain ⟨T139, h139, X139, e139, W139, st139⟩ := stC X137 hx hZ e137q Ar138 (j := (43 : Int32)) hin138  (g := (mkF m 834 #[.val (.int vlay), .val (.int vend), .val (.int vsc), .val (.long vbits), .second, .val (.int zz), .val (.int az), .val (.int pp), .val (.int ff), .val (.int (Int32.ofNat ne)), .unset, .unset, .unset, .unset, .unset, .unset, .unset] [(.int (own_ch (43 : Int32) pp zz az ff vbits)), (.int (43 : Int32)), (.ref b7), (.ref b7)])) rfl rfl (hb hby at_834)
  have V139 : Arv Z h139 b7 k7 .char (44 : Int32) (own_fill (own_f pp zz az ff vbits) 44) (.int (0 : Int32)) := own_arv_eq (own_fill_set (f := (own_f pp zz az ff vbits)) (k := 43) (v := (own_f pp zz az ff vbits) 43) (by decide) rfl rfl) (Arv.set Ar138 q138 S138 NN138 HH138 GG138 (fits_nar_char _) W139 43 rfl (by rw [own_fill_len]; decide))
  have Z139 : n0 ≤ h139.size := Nat.le_trans Z136 (Keep.of_wr W139).1
  have N139 := Fr.snoc X139 N137 g_b7
  have K139 : Keep h0 h139 [] := K136.wr W139 (Or.inr sz_b7)
  obtain ⟨T140, h140, X140, e140, E140, A140, D140, -, st140⟩ := newO X139 hx hZ hown (hw _ (List.mem_of_getElem? (i := 6) rfl)) (hw _ (List.mem_of_getElem? (i := 7) rfl)) (hw _ (List.mem_of_getElem? (i := 8) rfl)) e139 (g := (mkF m 837 #[.val (.int vlay), .val (.int vend), .val (.int vsc), .val (.long vbits), .second, .val (.int zz), .val (.int az), .val (.int pp), .val (.int ff), .val (.int (Int32.ofNat ne)), .val (.ref b7), .unset, .unset, .unset, .unset, .unset, .unset] [])) rfl (hb hby at_837) (by decide) (by decide)
  obtain ⟨b140, g140⟩ : ∃ z, z = h139.size := ⟨_, rfl⟩
  rw [← g140] at A140 D140 st140
  have ne141 : b7 ≠ b140 := Nat.ne_of_lt (Nat.lt_of_lt_of_le V139.lt (Nat.le_of_eq g140.symm))
  have c142 : Arv Z h140 b7 k7 .char (44 : Int32) (own_fill (own_f pp zz az ff vbits) 44) (.int (0 : Int32)) := V139.ext E140
  have g_b140 : n0 ≤ b140 := Nat.le_trans Z139 (Nat.le_of_eq g140.symm)
  have sz_b140 : h0.size ≤ b140 := Nat.le_trans K139.1 (Nat.le_of_eq g140.symm)
  have Z140 : n0 ≤ h140.size := Nat.le_trans Z139 E140.1
  have K140 : Keep h0 h140 [] := K139.ext E140
  have F140_coder : Fld Z h140 b140 "java/lang/String" "coder" "B" (.int (0 : Int32)) := D140 (Or.inr (hw _ (List.mem_of_getElem? (i := 32) rfl))) (ty := .byte) (by decide)
  have F140_value : Fld Z h140 b140 "java/lang/String" "value" "[B" .null := D140 (Or.inr (hw _ (List.mem_of_getElem? (i := 34) rfl))) (ty := (.array .byte)) (by decide)
  have hws143 : ∀ d ∈ StrChars.Road.words, d.before a0 Z = true := fun d hd => hw d ((by decide +kernel : ∀ d ∈ StrChars.Road.words, d ∈ tables_1) d hd)
  have hp143 : ∀ c ∈ (own_cs (own_f pp zz az ff vbits)), ¬ c < 0 ∧ ¬ (255 : Int32) < c := own_cs255 hff
  obtain ⟨_, _, ⟨T143, L143, k143, n143⟩, -, X143, ⟨Lc143, hQ143, l143, y143, z143⟩, st143⟩ := X140.specialBack hx (y := (⟨"java/lang/String", "<init>", "([C)V"⟩ : MethodName)) rfl hown (mvT hZ (hw _ (List.mem_of_getElem? (i := 9) rfl))) (mvT hZ (hw _ (List.mem_of_getElem? (i := 10) rfl))) (mvT hZ (hw _ (List.mem_of_getElem? (i := 11) rfl))) (by decide) (StrChars.Road.backV (W := 1) hZ hws143 (kI := 4) (hw _ (List.mem_of_getElem? (i := 7) rfl)) (cs := (own_cs (own_f pp zz az ff vbits))) (bs := ((own_cs (own_f pp zz az ff vbits))).map (fun c => c.toInt8.toInt32)) (n := 44) g_b140 Z140 A140 F140_value F140_coder (own_arv_eq (own_fill44 _) c142) (own_sta_keep S_cs K140) hcs own_cs_len rfl (by decide) (by decide) hp143 rfl (by decide) (by decide)) (g := (mkF m 843 #[.val (.int vlay), .val (.int vend), .val (.int vsc), .val (.long vbits), .second, .val (.int zz), .val (.int az), .val (.int pp), .val (.int ff), .val (.int (Int32.ofNat ne)), .val (.ref b7), .unset, .unset, .unset, .unset, .unset, .unset] [(.ref b7), (.ref b140), (.ref b140)])) rfl (by rw [hml]; rfl) (Steps.refl _) (a := b140) (argsL := [(.ref b7)]) (rest := [(.ref b140)]) (lenOf pd_5 rfl) rfl (by show 2 * 0 + _ ≤ _; exact Nat.le_of_eq rfl) (hb hby at_843) (fun _ _ => ⟨rfl, e140, (by decide : 2 + 1 ≤ _), (by decide : 48 + 44 ≤ _)⟩)
  dsimp only [Pt.U, Pt.locs, Pt.cells, Pt.slots] at X143 l143 y143 z143 st143 hQ143
  obtain rfl : k143 = 3 := y143; obtain rfl : n143 = 92 := z143
  obtain ⟨rfl, N143q, K143q, f143_0, f143_1, t143, kb143, gt143, szt143, nt143, fv143, fb143⟩ := hQ143
  have N143 : Fr n0 L143 := Eq.mpr (congrArg (Fr n0) l143) (Fr.app N139 N143q)
  have Z143 : n0 ≤ T143.heap.size := Nat.le_trans Z140 K143q.1
  have c144 : Arv Z T143.heap b7 k7 .char (44 : Int32) (own_fill (own_f pp zz az ff vbits) 44) (.int (0 : Int32)) := c142.keep K143q (ninS ne141 nin0)
  have c145 : Exa Z T143.heap b140 "java/lang/String" := A140.keep K143q
  have K143 : Keep h0 T143.heap [] := K140.trans K143q (allS (Or.inr sz_b140) all0)
  have sz_t143 : h0.size ≤ t143 := Nat.le_trans K140.1 szt143
  obtain ⟨T146, h146, X146, e146, E146, A146, D146, -, st146⟩ := newO X143 hx hZ hown (hw _ (List.mem_of_getElem? (i := 35) rfl)) (hw _ (List.mem_of_getElem? (i := 36) rfl)) (hw _ (List.mem_of_getElem? (i := 37) rfl)) rfl (g := (mkF m 848 #[.val (.int vlay), .val (.int vend), .val (.int vsc), .val (.long vbits), .second, .val (.int zz), .val (.int az), .val (.int pp), .val (.int ff), .val (.int (Int32.ofNat ne)), .val (.ref b7), .val (.ref b140), .unset, .unset, .unset, .unset, .unset] [])) rfl (hb hby at_848) (by decide) (by decide)
  obtain ⟨b146, g146⟩ : ∃ z, z = T143.heap.size := ⟨_, rfl⟩
  rw [← g146] at A146 D146 st146
  have ne147 : b7 ≠ b146 := Nat.ne_of_lt (Nat.lt_of_lt_of_le c144.lt (Nat.le_of_eq g146.symm))
  have ne148 : b140 ≠ b146 := Nat.ne_of_lt (Nat.lt_of_lt_of_le f143_0.lt (Nat.le_of_eq g146.symm))
  have ne149 : t143 ≠ b146 := Nat.ne_of_lt (Nat.lt_of_lt_of_le fb143.lt (Nat.le_of_eq g146.symm))
  have c150 : Arv Z h146 b7 k7 .char (44 : Int32) (own_fill (own_f pp zz az ff vbits) 44) (.int (0 : Int32)) := c144.ext E146
  have c151 : Exa Z h146 b140 "java/lang/String" := f143_0.ext E146
  have c152 : Fld Z h146 b140 "java/lang/String" "coder" "B" (.int (0 : Int32)) := f143_1.ext E146
  have c153 : Fld Z h146 b140 "java/lang/String" "value" "[B" (.ref t143) := fv143.ext E146
  have c154 : Arv Z h146 t143 kb143 .byte (44 : Int32) (List.map Value.int (List.map (fun c => c.toInt8.toInt32) (own_cs (own_f pp zz az ff vbits)))) (.int (0 : Int32)) := fb143.ext E146
  have g_b146 : n0 ≤ b146 := Nat.le_trans Z143 (Nat.le_of_eq g146.symm)
  have sz_b146 : h0.size ≤ b146 := Nat.le_trans K143.1 (Nat.le_of_eq g146.symm)
  have Z146 : n0 ≤ h146.size := Nat.le_trans Z143 E146.1
  have K146 : Keep h0 h146 [] := K143.ext E146
  have F146_high : Fld Z h146 b146 "com/example/paniere/paniere/CompactDecimal$Digits" "high" "J" (.long (0 : Int64)) := D146 (Or.inl (hw _ (List.mem_of_getElem? (i := 48) rfl))) (ty := .long) (by decide)
  have F146_low : Fld Z h146 b146 "com/example/paniere/paniere/CompactDecimal$Digits" "low" "J" (.long (0 : Int64)) := D146 (Or.inl (hw _ (List.mem_of_getElem? (i := 50) rfl))) (ty := .long) (by decide)
  have F146_scale : Fld Z h146 b146 "com/example/paniere/paniere/CompactDecimal$Digits" "scale" "I" (.int (0 : Int32)) := D146 (Or.inl (hw _ (List.mem_of_getElem? (i := 52) rfl))) (ty := .int) (by decide)
  have F146_significant : Fld Z h146 b146 "com/example/paniere/paniere/CompactDecimal$Digits" "significant" "I" (.int (0 : Int32)) := D146 (Or.inl (hw _ (List.mem_of_getElem? (i := 54) rfl))) (ty := .int) (by decide)
  obtain ⟨_, _, ⟨T155, L155, k155, n155⟩, -, X155, ⟨Lc155, hQ155, l155, y155, z155⟩, st155⟩ := X146.specialBack hx (y := (⟨"com/example/paniere/paniere/CompactDecimal$Digits", "<init>", "()V"⟩ : MethodName)) rfl hown (mvT hZ (hw _ (List.mem_of_getElem? (i := 38) rfl))) (mvT hZ (hw _ (List.mem_of_getElem? (i := 39) rfl))) (mvT hZ (hw _ (List.mem_of_getElem? (i := 40) rfl))) (by decide) (backOf (W := 1) (rm8 l Z a0 hw [] b146  h146 n0 Z146 ) hZ (hw _ (List.mem_of_getElem? (i := 40) rfl)) (hw _ (List.mem_of_getElem? (i := 37) rfl)) (by decide) (by decide)) (g := (mkF m 852 #[.val (.int vlay), .val (.int vend), .val (.int vsc), .val (.long vbits), .second, .val (.int zz), .val (.int az), .val (.int pp), .val (.int ff), .val (.int (Int32.ofNat ne)), .val (.ref b7), .val (.ref b140), .unset, .unset, .unset, .unset, .unset] [(.ref b146), (.ref b146)])) rfl (by rw [hml]; rfl) (Steps.refl _) (a := b146) (argsL := []) (rest := [(.ref b146)]) (lenOf pd_6 rfl) rfl (by show 2 * 0 + _ ≤ _; exact Nat.le_of_eq rfl) (hb hby at_852) (fun _ _ => ⟨rfl, e146, (by decide : 4 + 0 ≤ _), (by decide : 96 + 0 ≤ _)⟩)
  dsimp only [Pt.U, Pt.locs, Pt.cells, Pt.slots] at X155 l155 y155 z155 st155 hQ155
  obtain rfl : k155 = 4 := y155; obtain rfl : n155 = 96 := z155
  obtain ⟨rfl, N155q, e155q⟩ := hQ155
  have N155 : Fr n0 L155 := Eq.mpr (congrArg (Fr n0) l155) (Fr.app N143 N155q)
  obtain ⟨cq156, kq156, q156a, q156b, q156c⟩ := isOf hZ e155q A146
  obtain ⟨_, _, ⟨T156, L156, k156, n156⟩, -, X156, ⟨Lc156, hQ156, l156, y156, z156⟩, st156⟩ := X155.virtualBack hx (y := (⟨"com/example/paniere/paniere/CompactDecimal$Digits", "read", "(Ljava/lang/String;II)V"⟩ : MethodName)) (z := (⟨"com/example/paniere/paniere/CompactDecimal$Digits", "read", "(Ljava/lang/String;II)V"⟩ : MethodName)) hown (mvT hZ (hw _ (List.mem_of_getElem? (i := 42) rfl))) (mvT hZ (hw _ (List.mem_of_getElem? (i := 43) rfl))) (notFace_of_selects (args := #[]) (mvT hZ (hw _ (List.mem_of_getElem? (i := 45) rfl)))) (mvT hZ (hw _ (List.mem_of_getElem? (i := 45) rfl))) (mvT hZ (hw _ (List.mem_of_getElem? (i := 44) rfl))) (by decide) (backOf (W := 0) (rm9 l Z a0 hw [] b146 b140 vsc t143 kb143 (44 : Int32) (own_cs (own_f pp zz az ff vbits)) vz fm ne (.long (0 : Int64)) (.long (0 : Int64)) (.int (0 : Int32)) (.int (0 : Int32)) h146 n0 Z146 A146 F146_high F146_low F146_scale F146_significant c151 c153 c152 c154 (own_sta_keep S_cs K146) (own_sta_keep S_fm K146) g_b146 (Ne.symm ne148) (Ne.symm ne149) (StrChars.Road.codOf (n := 44) own_cs_len (fun x hx => (hp143 x hx).2)) (own_up _ hp143) hcs rfm (by rw [own_cs_len]; decide) (by rw [own_cs_len]; omega) ) hZ (hw _ (List.mem_of_getElem? (i := 46) rfl)) (hw _ (List.mem_of_getElem? (i := 37) rfl)) (by decide) (by decide)) q156a q156c (g := (mkF m 864 #[.val (.int vlay), .val (.int vend), .val (.int vsc), .val (.long vbits), .second, .val (.int zz), .val (.int az), .val (.int pp), .val (.int ff), .val (.int (Int32.ofNat ne)), .val (.ref b7), .val (.ref b140), .val (.ref b146), .unset, .unset, .unset, .unset] [(.int vsc), (.int (Int32.ofNat ne)), (.ref b140), (.ref b146)])) rfl (by rw [hml]; rfl) (Steps.refl _) (argsL := [(.ref b140), (.int (Int32.ofNat ne)), (.int vsc)]) (rest := []) (lenOf pd_7 rfl) rfl (by show 2 * 0 + _ ≤ _; exact Nat.le_of_eq rfl) (hb hby at_864) (fun _ _ => ⟨rfl, e155q, (by decide : 4 + 0 ≤ _), (by decide : 96 + 0 ≤ _)⟩)
  dsimp only [Pt.U, Pt.locs, Pt.cells, Pt.slots] at X156 l156 y156 z156 st156 hQ156
  obtain rfl : k156 = 4 := y156; obtain rfl : n156 = 96 := z156
  obtain ⟨rfl, N156q, K156q, f156_0, uh156, ul156, fr156_0, fr156_1, fr156_2, fr156_3⟩ := hQ156
  have N156 : Fr n0 L156 := Eq.mpr (congrArg (Fr n0) l156) (Fr.app N155 N156q)
  have Z156 : n0 ≤ T156.heap.size := Nat.le_trans Z146 K156q.1
  have c157 : Arv Z T156.heap b7 k7 .char (44 : Int32) (own_fill (own_f pp zz az ff vbits) 44) (.int (0 : Int32)) := c150.keep K156q (ninS ne147 nin0)
  have c158 : Exa Z T156.heap b140 "java/lang/String" := c151.keep K156q
  have c159 : Fld Z T156.heap b140 "java/lang/String" "coder" "B" (.int (0 : Int32)) := c152.keep K156q (ninS ne148 nin0)
  have c160 : Fld Z T156.heap b140 "java/lang/String" "value" "[B" (.ref t143) := c153.keep K156q (ninS ne148 nin0)
  have c161 : Arv Z T156.heap t143 kb143 .byte (44 : Int32) (List.map Value.int (List.map (fun c => c.toInt8.toInt32) (own_cs (own_f pp zz az ff vbits)))) (.int (0 : Int32)) := c154.keep K156q (ninS ne149 nin0)
  have c162 : Exa Z T156.heap b146 "com/example/paniere/paniere/CompactDecimal$Digits" := A146.keep K156q
  have K156 : Keep h0 T156.heap [] := K146.trans K156q (allS (Or.inr sz_b146) all0)
  obtain ⟨cq163, kq163, q163a, q163b, q163c⟩ := isOf hZ rfl f156_0
  obtain ⟨_, _, ⟨T163, L163, k163, n163⟩, -, X163, ⟨Lc163, hQ163, l163, y163, z163⟩, st163⟩ := X156.virtualBack hx (y := (⟨"com/example/paniere/paniere/CompactDecimal$Digits", "inTwoLongs", "()Z"⟩ : MethodName)) (z := (⟨"com/example/paniere/paniere/CompactDecimal$Digits", "inTwoLongs", "()Z"⟩ : MethodName)) hown (mvT hZ (hw _ (List.mem_of_getElem? (i := 77) rfl))) (mvT hZ (hw _ (List.mem_of_getElem? (i := 78) rfl))) (notFace_of_selects (args := #[]) (mvT hZ (hw _ (List.mem_of_getElem? (i := 80) rfl)))) (mvT hZ (hw _ (List.mem_of_getElem? (i := 80) rfl))) (mvT hZ (hw _ (List.mem_of_getElem? (i := 79) rfl))) (by decide) (backOf (W := 0) (rm15 l Z a0 hw [] b146 (Int32.ofNat (own_rdk (own_cs (own_f pp zz az ff vbits)) ne 0 0)) vsc T156.heap n0 Z156 fr156_3 fr156_2) hZ (hw _ (List.mem_of_getElem? (i := 81) rfl)) (hw _ (List.mem_of_getElem? (i := 37) rfl)) (by decide) (by decide)) q163a q163c (g := (mkF m 869 #[.val (.int vlay), .val (.int vend), .val (.int vsc), .val (.long vbits), .second, .val (.int zz), .val (.int az), .val (.int pp), .val (.int ff), .val (.int (Int32.ofNat ne)), .val (.ref b7), .val (.ref b140), .val (.ref b146), .unset, .unset, .unset, .unset] [(.ref b146)])) rfl (by rw [hml]; rfl) (Steps.refl _) (argsL := []) (rest := []) (lenOf pd_8 rfl) rfl (by show 2 * 0 + _ ≤ _; exact Nat.le_of_eq rfl) (hb hby at_869) (fun _ _ => ⟨rfl, rfl, (by decide : 4 + 0 ≤ _), (by decide : 96 + 0 ≤ _)⟩)
  dsimp only [Pt.U, Pt.locs, Pt.cells, Pt.slots] at X163 l163 y163 z163 st163 hQ163
  obtain rfl : k163 = 4 := y163; obtain rfl : n163 = 96 := z163
  obtain ⟨rfl, N163q, e163q⟩ := hQ163
  have N163 : Fr n0 L163 := Eq.mpr (congrArg (Fr n0) l163) (Fr.app N156 N163q)
  have pre164 : ∀ t, Steps p.tables e below (T163.setTop (mkF m 878 #[.val (.int vlay), .val (.int vend), .val (.int vsc), .val (.long vbits), .second, .val (.int zz), .val (.int az), .val (.int pp), .val (.int ff), .val (.int (Int32.ofNat ne)), .val (.ref b7), .val (.ref b140), .val (.ref b146), .val (.int (own_two b146 (Int32.ofNat (own_rdk (own_cs (own_f pp zz az ff vbits)) ne 0 0)) vsc)), .unset, .unset, .unset] [(.int (Int32.ofNat ne)), (.int pp)])) t → Steps p.tables e below (s₁.setTop (entryFrame m #[(.int vlay), (.int vend), (.int vsc), (.long vbits)] maxLocals)) t := by
    intro t kt
    refine pre6 t ?_
    show Steps p.tables e below (T2.setTop (mkF m 51 #[.val (.int vlay), .val (.int vend), .val (.int vsc), .val (.long vbits), .second, .val (.int zz), .val (.int az), .val (.int pp), .val (.int ff), .val (.int (Int32.ofNat ne)), .unset, .unset, .unset, .unset, .unset, .unset, .unset] [])) _
    refine XS.bipush X2.here hx rfl (hb hby at_51) ?_
    show Steps p.tables e below (T2.setTop (mkF m 53 #[.val (.int vlay), .val (.int vend), .val (.int vsc), .val (.long vbits), .second, .val (.int zz), .val (.int az), .val (.int pp), .val (.int ff), .val (.int (Int32.ofNat ne)), .unset, .unset, .unset, .unset, .unset, .unset, .unset] [(.int (44 : Int32))])) _
    refine st7 _ ?_
    show Steps p.tables e below (T7.setTop (mkF m 55 #[.val (.int vlay), .val (.int vend), .val (.int vsc), .val (.long vbits), .second, .val (.int zz), .val (.int az), .val (.int pp), .val (.int ff), .val (.int (Int32.ofNat ne)), .unset, .unset, .unset, .unset, .unset, .unset, .unset] [(.ref b7)])) _
    refine XS.dup X7.here hx rfl (hb hby at_55) rfl rfl ?_
    show Steps p.tables e below (T7.setTop (mkF m 56 #[.val (.int vlay), .val (.int vend), .val (.int vsc), .val (.long vbits), .second, .val (.int zz), .val (.int az), .val (.int pp), .val (.int ff), .val (.int (Int32.ofNat ne)), .unset, .unset, .unset, .unset, .unset, .unset, .unset] [(.ref b7), (.ref b7)])) _
    refine XS.iconst X7.here hx rfl (hb hby at_56) ?_
    show Steps p.tables e below (T7.setTop (mkF m 57 #[.val (.int vlay), .val (.int vend), .val (.int vsc), .val (.long vbits), .second, .val (.int zz), .val (.int az), .val (.int pp), .val (.int ff), .val (.int (Int32.ofNat ne)), .unset, .unset, .unset, .unset, .unset, .unset, .unset] [(.int (0 : Int32)), (.ref b7), (.ref b7)])) _
    refine XS.iconst X7.here hx rfl (hb hby at_57) ?_
    show Steps p.tables e below (T7.setTop (mkF m 58 #[.val (.int vlay), .val (.int vend), .val (.int vsc), .val (.long vbits), .second, .val (.int zz), .val (.int az), .val (.int pp), .val (.int ff), .val (.int (Int32.ofNat ne)), .unset, .unset, .unset, .unset, .unset, .unset, .unset] [(.int (0 : Int32)), (.int (0 : Int32)), (.ref b7), (.ref b7)])) _
    refine XS.iload X7.here hx rfl (hb hby at_58) rfl ?_
    show Steps p.tables e below (T7.setTop (mkF m 60 #[.val (.int vlay), .val (.int vend), .val (.int vsc), .val (.long vbits), .second, .val (.int zz), .val (.int az), .val (.int pp), .val (.int ff), .val (.int (Int32.ofNat ne)), .unset, .unset, .unset, .unset, .unset, .unset, .unset] [(.int pp), (.int (0 : Int32)), (.int (0 : Int32)), (.ref b7), (.ref b7)])) _
    refine XS.iload X7.here hx rfl (hb hby at_60) rfl ?_
    show Steps p.tables e below (T7.setTop (mkF m 62 #[.val (.int vlay), .val (.int vend), .val (.int vsc), .val (.long vbits), .second, .val (.int zz), .val (.int az), .val (.int pp), .val (.int ff), .val (.int (Int32.ofNat ne)), .unset, .unset, .unset, .unset, .unset, .unset, .unset] [(.int zz), (.int pp), (.int (0 : Int32)), (.int (0 : Int32)), (.ref b7), (.ref b7)])) _
    refine XS.iload X7.here hx rfl (hb hby at_62) rfl ?_
    show Steps p.tables e below (T7.setTop (mkF m 64 #[.val (.int vlay), .val (.int vend), .val (.int vsc), .val (.long vbits), .second, .val (.int zz), .val (.int az), .val (.int pp), .val (.int ff), .val (.int (Int32.ofNat ne)), .unset, .unset, .unset, .unset, .unset, .unset, .unset] [(.int az), (.int zz), (.int pp), (.int (0 : Int32)), (.int (0 : Int32)), (.ref b7), (.ref b7)])) _
    refine XS.iload X7.here hx rfl (hb hby at_64) rfl ?_
    show Steps p.tables e below (T7.setTop (mkF m 66 #[.val (.int vlay), .val (.int vend), .val (.int vsc), .val (.long vbits), .second, .val (.int zz), .val (.int az), .val (.int pp), .val (.int ff), .val (.int (Int32.ofNat ne)), .unset, .unset, .unset, .unset, .unset, .unset, .unset] [(.int ff), (.int az), (.int zz), (.int pp), (.int (0 : Int32)), (.int (0 : Int32)), (.ref b7), (.ref b7)])) _
    refine XS.lloadN X7.here hx rfl (hb hby at_66) rfl ?_
    show Steps p.tables e below (T7.setTop (mkF m 67 #[.val (.int vlay), .val (.int vend), .val (.int vsc), .val (.long vbits), .second, .val (.int zz), .val (.int az), .val (.int pp), .val (.int ff), .val (.int (Int32.ofNat ne)), .unset, .unset, .unset, .unset, .unset, .unset, .unset] [(.long vbits), (.int ff), (.int az), (.int zz), (.int pp), (.int (0 : Int32)), (.int (0 : Int32)), (.ref b7), (.ref b7)])) _
    refine st8 _ ?_
    show Steps p.tables e below (T8.setTop (mkF m 70 #[.val (.int vlay), .val (.int vend), .val (.int vsc), .val (.long vbits), .second, .val (.int zz), .val (.int az), .val (.int pp), .val (.int ff), .val (.int (Int32.ofNat ne)), .unset, .unset, .unset, .unset, .unset, .unset, .unset] [(.int (own_ch (0 : Int32) pp zz az ff vbits)), (.int (0 : Int32)), (.ref b7), (.ref b7)])) _
    refine st10 _ ?_
    show Steps p.tables e below (T10.setTop (mkF m 71 #[.val (.int vlay), .val (.int vend), .val (.int vsc), .val (.long vbits), .second, .val (.int zz), .val (.int az), .val (.int pp), .val (.int ff), .val (.int (Int32.ofNat ne)), .unset, .unset, .unset, .unset, .unset, .unset, .unset] [(.ref b7)])) _
    refine XS.dup X10.here hx rfl (hb hby at_71) rfl rfl ?_
    show Steps p.tables e below (T10.setTop (mkF m 72 #[.val (.int vlay), .val (.int vend), .val (.int vsc), .val (.long vbits), .second, .val (.int zz), .val (.int az), .val (.int pp), .val (.int ff), .val (.int (Int32.ofNat ne)), .unset, .unset, .unset, .unset, .unset, .unset, .unset] [(.ref b7), (.ref b7)])) _
    refine XS.iconst X10.here hx rfl (hb hby at_72) ?_
    show Steps p.tables e below (T10.setTop (mkF m 73 #[.val (.int vlay), .val (.int vend), .val (.int vsc), .val (.long vbits), .second, .val (.int zz), .val (.int az), .val (.int pp), .val (.int ff), .val (.int (Int32.ofNat ne)), .unset, .unset, .unset, .unset, .unset, .unset, .unset] [(.int (1 : Int32)), (.ref b7), (.ref b7)])) _
    refine XS.iconst X10.here hx rfl (hb hby at_73) ?_
    show Steps p.tables e below (T10.setTop (mkF m 74 #[.val (.int vlay), .val (.int vend), .val (.int vsc), .val (.long vbits), .second, .val (.int zz), .val (.int az), .val (.int pp), .val (.int ff), .val (.int (Int32.ofNat ne)), .unset, .unset, .unset, .unset, .unset, .unset, .unset] [(.int (1 : Int32)), (.int (1 : Int32)), (.ref b7), (.ref b7)])) _
    refine XS.iload X10.here hx rfl (hb hby at_74) rfl ?_
    show Steps p.tables e below (T10.setTop (mkF m 76 #[.val (.int vlay), .val (.int vend), .val (.int vsc), .val (.long vbits), .second, .val (.int zz), .val (.int az), .val (.int pp), .val (.int ff), .val (.int (Int32.ofNat ne)), .unset, .unset, .unset, .unset, .unset, .unset, .unset] [(.int pp), (.int (1 : Int32)), (.int (1 : Int32)), (.ref b7), (.ref b7)])) _
    refine XS.iload X10.here hx rfl (hb hby at_76) rfl ?_
    show Steps p.tables e below (T10.setTop (mkF m 78 #[.val (.int vlay), .val (.int vend), .val (.int vsc), .val (.long vbits), .second, .val (.int zz), .val (.int az), .val (.int pp), .val (.int ff), .val (.int (Int32.ofNat ne)), .unset, .unset, .unset, .unset, .unset, .unset, .unset] [(.int zz), (.int pp), (.int (1 : Int32)), (.int (1 : Int32)), (.ref b7), (.ref b7)])) _
    refine XS.iload X10.here hx rfl (hb hby at_78) rfl ?_
    show Steps p.tables e below (T10.setTop (mkF m 80 #[.val (.int vlay), .val (.int vend), .val (.int vsc), .val (.long vbits), .second, .val (.int zz), .val (.int az), .val (.int pp), .val (.int ff), .val (.int (Int32.ofNat ne)), .unset, .unset, .unset, .unset, .unset, .unset, .unset] [(.int az), (.int zz), (.int pp), (.int (1 : Int32)), (.int (1 : Int32)), (.ref b7), (.ref b7)])) _
    refine XS.iload X10.here hx rfl (hb hby at_80) rfl ?_
    show Steps p.tables e below (T10.setTop (mkF m 82 #[.val (.int vlay), .val (.int vend), .val (.int vsc), .val (.long vbits), .second, .val (.int zz), .val (.int az), .val (.int pp), .val (.int ff), .val (.int (Int32.ofNat ne)), .unset, .unset, .unset, .unset, .unset, .unset, .unset] [(.int ff), (.int az), (.int zz), (.int pp), (.int (1 : Int32)), (.int (1 : Int32)), (.ref b7), (.ref b7)])) _
    refine XS.lloadN X10.here hx rfl (hb hby at_82) rfl ?_
    show Steps p.tables e below (T10.setTop (mkF m 83 #[.val (.int vlay), .val (.int vend), .val (.int vsc), .val (.long vbits), .second, .val (.int zz), .val (.int az), .val (.int pp), .val (.int ff), .val (.int (Int32.ofNat ne)), .unset, .unset, .unset, .unset, .unset, .unset, .unset] [(.long vbits), (.int ff), (.int az), (.int zz), (.int pp), (.int (1 : Int32)), (.int (1 : Int32)), (.ref b7), (.ref b7)])) _
    refine st11 _ ?_
    show Steps p.tables e below (T11.setTop (mkF m 86 #[.val (.int vlay), .val (.int vend), .val (.int vsc), .val (.long vbits), .second, .val (.int zz), .val (.int az), .val (.int pp), .val (.int ff), .val (.int (Int32.ofNat ne)), .unset, .unset, .unset, .unset, .unset, .unset, .unset] [(.int (own_ch (1 : Int32) pp zz az ff vbits)), (.int (1 : Int32)), (.ref b7), (.ref b7)])) _
    refine st13 _ ?_
    show Steps p.tables e below (T13.setTop (mkF m 87 #[.val (.int vlay), .val (.int vend), .val (.int vsc), .val (.long vbits), .second, .val (.int zz), .val (.int az), .val (.int pp), .val (.int ff), .val (.int (Int32.ofNat ne)), .unset, .unset, .unset, .unset, .unset, .unset, .unset] [(.ref b7)])) _
    refine XS.dup X13.here hx rfl (hb hby at_87) rfl rfl ?_
    show Steps p.tables e below (T13.setTop (mkF m 88 #[.val (.int vlay), .val (.int vend), .val (.int vsc), .val (.long vbits), .second, .val (.int zz), .val (.int az), .val (.int pp), .val (.int ff), .val (.int (Int32.ofNat ne)), .unset, .unset, .unset, .unset, .unset, .unset, .unset] [(.ref b7), (.ref b7)])) _
    refine XS.iconst X13.here hx rfl (hb hby at_88) ?_
    show Steps p.tables e below (T13.setTop (mkF m 89 #[.val (.int vlay), .val (.int vend), .val (.int vsc), .val (.long vbits), .second, .val (.int zz), .val (.int az), .val (.int pp), .val (.int ff), .val (.int (Int32.ofNat ne)), .unset, .unset, .unset, .unset, .unset, .unset, .unset] [(.int (2 : Int32)), (.ref b7), (.ref b7)])) _
    refine XS.iconst X13.here hx rfl (hb hby at_89) ?_
    show Steps p.tables e below (T13.setTop (mkF m 90 #[.val (.int vlay), .val (.int vend), .val (.int vsc), .val (.long vbits), .second, .val (.int zz), .val (.int az), .val (.int pp), .val (.int ff), .val (.int (Int32.ofNat ne)), .unset, .unset, .unset, .unset, .unset, .unset, .unset] [(.int (2 : Int32)), (.int (2 : Int32)), (.ref b7), (.ref b7)])) _
    refine XS.iload X13.here hx rfl (hb hby at_90) rfl ?_
    show Steps p.tables e below (T13.setTop (mkF m 92 #[.val (.int vlay), .val (.int vend), .val (.int vsc), .val (.long vbits), .second, .val (.int zz), .val (.int az), .val (.int pp), .val (.int ff), .val (.int (Int32.ofNat ne)), .unset, .unset, .unset, .unset, .unset, .unset, .unset] [(.int pp), (.int (2 : Int32)), (.int (2 : Int32)), (.ref b7), (.ref b7)])) _
    refine XS.iload X13.here hx rfl (hb hby at_92) rfl ?_
    show Steps p.tables e below (T13.setTop (mkF m 94 #[.val (.int vlay), .val (.int vend), .val (.int vsc), .val (.long vbits), .second, .val (.int zz), .val (.int az), .val (.int pp), .val (.int ff), .val (.int (Int32.ofNat ne)), .unset, .unset, .unset, .unset, .unset, .unset, .unset] [(.int zz), (.int pp), (.int (2 : Int32)), (.int (2 : Int32)), (.ref b7), (.ref b7)])) _
    refine XS.iload X13.here hx rfl (hb hby at_94) rfl ?_
    show Steps p.tables e below (T13.setTop (mkF m 96 #[.val (.int vlay), .val (.int vend), .val (.int vsc), .val (.long vbits), .second, .val (.int zz), .val (.int az), .val (.int pp), .val (.int ff), .val (.int (Int32.ofNat ne)), .unset, .unset, .unset, .unset, .unset, .unset, .unset] [(.int az), (.int zz), (.int pp), (.int (2 : Int32)), (.int (2 : Int32)), (.ref b7), (.ref b7)])) _
    refine XS.iload X13.here hx rfl (hb hby at_96) rfl ?_
    show Steps p.tables e below (T13.setTop (mkF m 98 #[.val (.int vlay), .val (.int vend), .val (.int vsc), .val (.long vbits), .second, .val (.int zz), .val (.int az), .val (.int pp), .val (.int ff), .val (.int (Int32.ofNat ne)), .unset, .unset, .unset, .unset, .unset, .unset, .unset] [(.int ff), (.int az), (.int zz), (.int pp), (.int (2 : Int32)), (.int (2 : Int32)), (.ref b7), (.ref b7)])) _
    refine XS.lloadN X13.here hx rfl (hb hby at_98) rfl ?_
    show Steps p.tables e below (T13.setTop (mkF m 99 #[.val (.int vlay), .val (.int vend), .val (.int vsc), .val (.long vbits), .second, .val (.int zz), .val (.int az), .val (.int pp), .val (.int ff), .val (.int (Int32.ofNat ne)), .unset, .unset, .unset, .unset, .unset, .unset, .unset] [(.long vbits), (.int ff), (.int az), (.int zz), (.int pp), (.int (2 : Int32)), (.int (2 : Int32)), (.ref b7), (.ref b7)])) _
    refine st14 _ ?_
    show Steps p.tables e below (T14.setTop (mkF m 102 #[.val (.int vlay), .val (.int vend), .val (.int vsc), .val (.long vbits), .second, .val (.int zz), .val (.int az), .val (.int pp), .val (.int ff), .val (.int (Int32.ofNat ne)), .unset, .unset, .unset, .unset, .unset, .unset, .unset] [(.int (own_ch (2 : Int32) pp zz az ff vbits)), (.int (2 : Int32)), (.ref b7), (.ref b7)])) _
    refine st16 _ ?_
    show Steps p.tables e below (T16.setTop (mkF m 103 #[.val (.int vlay), .val (.int vend), .val (.int vsc), .val (.long vbits), .second, .val (.int zz), .val (.int az), .val (.int pp), .val (.int ff), .val (.int (Int32.ofNat ne)), .unset, .unset, .unset, .unset, .unset, .unset, .unset] [(.ref b7)])) _
    refine XS.dup X16.here hx rfl (hb hby at_103) rfl rfl ?_
    show Steps p.tables e below (T16.setTop (mkF m 104 #[.val (.int vlay), .val (.int vend), .val (.int vsc), .val (.long vbits), .second, .val (.int zz), .val (.int az), .val (.int pp), .val (.int ff), .val (.int (Int32.ofNat ne)), .unset, .unset, .unset, .unset, .unset, .unset, .unset] [(.ref b7), (.ref b7)])) _
    refine XS.iconst X16.here hx rfl (hb hby at_104) ?_
    show Steps p.tables e below (T16.setTop (mkF m 105 #[.val (.int vlay), .val (.int vend), .val (.int vsc), .val (.long vbits), .second, .val (.int zz), .val (.int az), .val (.int pp), .val (.int ff), .val (.int (Int32.ofNat ne)), .unset, .unset, .unset, .unset, .unset, .unset, .unset] [(.int (3 : Int32)), (.ref b7), (.ref b7)])) _
    refine XS.iconst X16.here hx rfl (hb hby at_105) ?_
    show Steps p.tables e below (T16.setTop (mkF m 106 #[.val (.int vlay), .val (.int vend), .val (.int vsc), .val (.long vbits), .second, .val (.int zz), .val (.int az), .val (.int pp), .val (.int ff), .val (.int (Int32.ofNat ne)), .unset, .unset, .unset, .unset, .unset, .unset, .unset] [(.int (3 : Int32)), (.int (3 : Int32)), (.ref b7), (.ref b7)])) _
    refine XS.iload X16.here hx rfl (hb hby at_106) rfl ?_
    show Steps p.tables e below (T16.setTop (mkF m 108 #[.val (.int vlay), .val (.int vend), .val (.int vsc), .val (.long vbits), .second, .val (.int zz), .val (.int az), .val (.int pp), .val (.int ff), .val (.int (Int32.ofNat ne)), .unset, .unset, .unset, .unset, .unset, .unset, .unset] [(.int pp), (.int (3 : Int32)), (.int (3 : Int32)), (.ref b7), (.ref b7)])) _
    refine XS.iload X16.here hx rfl (hb hby at_108) rfl ?_
    show Steps p.tables e below (T16.setTop (mkF m 110 #[.val (.int vlay), .val (.int vend), .val (.int vsc), .val (.long vbits), .second, .val (.int zz), .val (.int az), .val (.int pp), .val (.int ff), .val (.int (Int32.ofNat ne)), .unset, .unset, .unset, .unset, .unset, .unset, .unset] [(.int zz), (.int pp), (.int (3 : Int32)), (.int (3 : Int32)), (.ref b7), (.ref b7)])) _
    refine XS.iload X16.here hx rfl (hb hby at_110) rfl ?_
    show Steps p.tables e below (T16.setTop (mkF m 112 #[.val (.int vlay), .val (.int vend), .val (.int vsc), .val (.long vbits), .second, .val (.int zz), .val (.int az), .val (.int pp), .val (.int ff), .val (.int (Int32.ofNat ne)), .unset, .unset, .unset, .unset, .unset, .unset, .unset] [(.int az), (.int zz), (.int pp), (.int (3 : Int32)), (.int (3 : Int32)), (.ref b7), (.ref b7)])) _
    refine XS.iload X16.here hx rfl (hb hby at_112) rfl ?_
    show Steps p.tables e below (T16.setTop (mkF m 114 #[.val (.int vlay), .val (.int vend), .val (.int vsc), .val (.long vbits), .second, .val (.int zz), .val (.int az), .val (.int pp), .val (.int ff), .val (.int (Int32.ofNat ne)), .unset, .unset, .unset, .unset, .unset, .unset, .unset] [(.int ff), (.int az), (.int zz), (.int pp), (.int (3 : Int32)), (.int (3 : Int32)), (.ref b7), (.ref b7)])) _
    refine XS.lloadN X16.here hx rfl (hb hby at_114) rfl ?_
    show Steps p.tables e below (T16.setTop (mkF m 115 #[.val (.int vlay), .val (.int vend), .val (.int vsc), .val (.long vbits), .second, .val (.int zz), .val (.int az), .val (.int pp), .val (.int ff), .val (.int (Int32.ofNat ne)), .unset, .unset, .unset, .unset, .unset, .unset, .unset] [(.long vbits), (.int ff), (.int az), (.int zz), (.int pp), (.int (3 : Int32)), (.int (3 : Int32)), (.ref b7), (.ref b7)])) _
    refine st17 _ ?_
    show Steps p.tables e below (T17.setTop (mkF m 118 #[.val (.int vlay), .val (.int vend), .val (.int vsc), .val (.long vbits), .second, .val (.int zz), .val (.int az), .val (.int pp), .val (.int ff), .val (.int (Int32.ofNat ne)), .unset, .unset, .unset, .unset, .unset, .unset, .unset] [(.int (own_ch (3 : Int32) pp zz az ff vbits)), (.int (3 : Int32)), (.ref b7), (.ref b7)])) _
    refine st19 _ ?_
    show Steps p.tables e below (T19.setTop (mkF m 119 #[.val (.int vlay), .val (.int vend), .val (.int vsc), .val (.long vbits), .second, .val (.int zz), .val (.int az), .val (.int pp), .val (.int ff), .val (.int (Int32.ofNat ne)), .unset, .unset, .unset, .unset, .unset, .unset, .unset] [(.ref b7)])) _
    refine XS.dup X19.here hx rfl (hb hby at_119) rfl rfl ?_
    show Steps p.tables e below (T19.setTop (mkF m 120 #[.val (.int vlay), .val (.int vend), .val (.int vsc), .val (.long vbits), .second, .val (.int zz), .val (.int az), .val (.int pp), .val (.int ff), .val (.int (Int32.ofNat ne)), .unset, .unset, .unset, .unset, .unset, .unset, .unset] [(.ref b7), (.ref b7)])) _
    refine XS.iconst X19.here hx rfl (hb hby at_120) ?_
    show Steps p.tables e below (T19.setTop (mkF m 121 #[.val (.int vlay), .val (.int vend), .val (.int vsc), .val (.long vbits), .second, .val (.int zz), .val (.int az), .val (.int pp), .val (.int ff), .val (.int (Int32.ofNat ne)), .unset, .unset, .unset, .unset, .unset, .unset, .unset] [(.int (4 : Int32)), (.ref b7), (.ref b7)])) _
    refine XS.iconst X19.here hx rfl (hb hby at_121) ?_
    show Steps p.tables e below (T19.setTop (mkF m 122 #[.val (.int vlay), .val (.int vend), .val (.int vsc), .val (.long vbits), .second, .val (.int zz), .val (.int az), .val (.int pp), .val (.int ff), .val (.int (Int32.ofNat ne)), .unset, .unset, .unset, .unset, .unset, .unset, .unset] [(.int (4 : Int32)), (.int (4 : Int32)), (.ref b7), (.ref b7)])) _
    refine XS.iload X19.here hx rfl (hb hby at_122) rfl ?_
    show Steps p.tables e below (T19.setTop (mkF m 124 #[.val (.int vlay), .val (.int vend), .val (.int vsc), .val (.long vbits), .second, .val (.int zz), .val (.int az), .val (.int pp), .val (.int ff), .val (.int (Int32.ofNat ne)), .unset, .unset, .unset, .unset, .unset, .unset, .unset] [(.int pp), (.int (4 : Int32)), (.int (4 : Int32)), (.ref b7), (.ref b7)])) _
    refine XS.iload X19.here hx rfl (hb hby at_124) rfl ?_
    show Steps p.tables e below (T19.setTop (mkF m 126 #[.val (.int vlay), .val (.int vend), .val (.int vsc), .val (.long vbits), .second, .val (.int zz), .val (.int az), .val (.int pp), .val (.int ff), .val (.int (Int32.ofNat ne)), .unset, .unset, .unset, .unset, .unset, .unset, .unset] [(.int zz), (.int pp), (.int (4 : Int32)), (.int (4 : Int32)), (.ref b7), (.ref b7)])) _
    refine XS.iload X19.here hx rfl (hb hby at_126) rfl ?_
    show Steps p.tables e below (T19.setTop (mkF m 128 #[.val (.int vlay), .val (.int vend), .val (.int vsc), .val (.long vbits), .second, .val (.int zz), .val (.int az), .val (.int pp), .val (.int ff), .val (.int (Int32.ofNat ne)), .unset, .unset, .unset, .unset, .unset, .unset, .unset] [(.int az), (.int zz), (.int pp), (.int (4 : Int32)), (.int (4 : Int32)), (.ref b7), (.ref b7)])) _
    refine XS.iload X19.here hx rfl (hb hby at_128) rfl ?_
    show Steps p.tables e below (T19.setTop (mkF m 130 #[.val (.int vlay), .val (.int vend), .val (.int vsc), .val (.long vbits), .second, .val (.int zz), .val (.int az), .val (.int pp), .val (.int ff), .val (.int (Int32.ofNat ne)), .unset, .unset, .unset, .unset, .unset, .unset, .unset] [(.int ff), (.int az), (.int zz), (.int pp), (.int (4 : Int32)), (.int (4 : Int32)), (.ref b7), (.ref b7)])) _
    refine XS.lloadN X19.here hx rfl (hb hby at_130) rfl ?_
    show Steps p.tables e below (T19.setTop (mkF m 131 #[.val (.int vlay), .val (.int vend), .val (.int vsc), .val (.long vbits), .second, .val (.int zz), .val (.int az), .val (.int pp), .val (.int ff), .val (.int (Int32.ofNat ne)), .unset, .unset, .unset, .unset, .unset, .unset, .unset] [(.long vbits), (.int ff), (.int az), (.int zz), (.int pp), (.int (4 : Int32)), (.int (4 : Int32)), (.ref b7), (.ref b7)])) _
    refine st20 _ ?_
    show Steps p.tables e below (T20.setTop (mkF m 134 #[.val (.int vlay), .val (.int vend), .val (.int vsc), .val (.long vbits), .second, .val (.int zz), .val (.int az), .val (.int pp), .val (.int ff), .val (.int (Int32.ofNat ne)), .unset, .unset, .unset, .unset, .unset, .unset, .unset] [(.int (own_ch (4 : Int32) pp zz az ff vbits)), (.int (4 : Int32)), (.ref b7), (.ref b7)])) _
    refine st22 _ ?_
    show Steps p.tables e below (T22.setTop (mkF m 135 #[.val (.int vlay), .val (.int vend), .val (.int vsc), .val (.long vbits), .second, .val (.int zz), .val (.int az), .val (.int pp), .val (.int ff), .val (.int (Int32.ofNat ne)), .unset, .unset, .unset, .unset, .unset, .unset, .unset] [(.ref b7)])) _
    refine XS.dup X22.here hx rfl (hb hby at_135) rfl rfl ?_
    show Steps p.tables e below (T22.setTop (mkF m 136 #[.val (.int vlay), .val (.int vend), .val (.int vsc), .val (.long vbits), .second, .val (.int zz), .val (.int az), .val (.int pp), .val (.int ff), .val (.int (Int32.ofNat ne)), .unset, .unset, .unset, .unset, .unset, .unset, .unset] [(.ref b7), (.ref b7)])) _
    refine XS.iconst X22.here hx rfl (hb hby at_136) ?_
    show Steps p.tables e below (T22.setTop (mkF m 137 #[.val (.int vlay), .val (.int vend), .val (.int vsc), .val (.long vbits), .second, .val (.int zz), .val (.int az), .val (.int pp), .val (.int ff), .val (.int (Int32.ofNat ne)), .unset, .unset, .unset, .unset, .unset, .unset, .unset] [(.int (5 : Int32)), (.ref b7), (.ref b7)])) _
    refine XS.iconst X22.here hx rfl (hb hby at_137) ?_
    show Steps p.tables e below (T22.setTop (mkF m 138 #[.val (.int vlay), .val (.int vend), .val (.int vsc), .val (.long vbits), .second, .val (.int zz), .val (.int az), .val (.int pp), .val (.int ff), .val (.int (Int32.ofNat ne)), .unset, .unset, .unset, .unset, .unset, .unset, .unset] [(.int (5 : Int32)), (.int (5 : Int32)), (.ref b7), (.ref b7)])) _
    refine XS.iload X22.here hx rfl (hb hby at_138) rfl ?_
    show Steps p.tables e below (T22.setTop (mkF m 140 #[.val (.int vlay), .val (.int vend), .val (.int vsc), .val (.long vbits), .second, .val (.int zz), .val (.int az), .val (.int pp), .val (.int ff), .val (.int (Int32.ofNat ne)), .unset, .unset, .unset, .unset, .unset, .unset, .unset] [(.int pp), (.int (5 : Int32)), (.int (5 : Int32)), (.ref b7), (.ref b7)])) _
    refine XS.iload X22.here hx rfl (hb hby at_140) rfl ?_
    show Steps p.tables e below (T22.setTop (mkF m 142 #[.val (.int vlay), .val (.int vend), .val (.int vsc), .val (.long vbits), .second, .val (.int zz), .val (.int az), .val (.int pp), .val (.int ff), .val (.int (Int32.ofNat ne)), .unset, .unset, .unset, .unset, .unset, .unset, .unset] [(.int zz), (.int pp), (.int (5 : Int32)), (.int (5 : Int32)), (.ref b7), (.ref b7)])) _
    refine XS.iload X22.here hx rfl (hb hby at_142) rfl ?_
    show Steps p.tables e below (T22.setTop (mkF m 144 #[.val (.int vlay), .val (.int vend), .val (.int vsc), .val (.long vbits), .second, .val (.int zz), .val (.int az), .val (.int pp), .val (.int ff), .val (.int (Int32.ofNat ne)), .unset, .unset, .unset, .unset, .unset, .unset, .unset] [(.int az), (.int zz), (.int pp), (.int (5 : Int32)), (.int (5 : Int32)), (.ref b7), (.ref b7)])) _
    refine XS.iload X22.here hx rfl (hb hby at_144) rfl ?_
    show Steps p.tables e below (T22.setTop (mkF m 146 #[.val (.int vlay), .val (.int vend), .val (.int vsc), .val (.long vbits), .second, .val (.int zz), .val (.int az), .val (.int pp), .val (.int ff), .val (.int (Int32.ofNat ne)), .unset, .unset, .unset, .unset, .unset, .unset, .unset] [(.int ff), (.int az), (.int zz), (.int pp), (.int (5 : Int32)), (.int (5 : Int32)), (.ref b7), (.ref b7)])) _
    refine XS.lloadN X22.here hx rfl (hb hby at_146) rfl ?_
    show Steps p.tables e below (T22.setTop (mkF m 147 #[.val (.int vlay), .val (.int vend), .val (.int vsc), .val (.long vbits), .second, .val (.int zz), .val (.int az), .val (.int pp), .val (.int ff), .val (.int (Int32.ofNat ne)), .unset, .unset, .unset, .unset, .unset, .unset, .unset] [(.long vbits), (.int ff), (.int az), (.int zz), (.int pp), (.int (5 : Int32)), (.int (5 : Int32)), (.ref b7), (.ref b7)])) _
    refine st23 _ ?_
    show Steps p.tables e below (T23.setTop (mkF m 150 #[.val (.int vlay), .val (.int vend), .val (.int vsc), .val (.long vbits), .second, .val (.int zz), .val (.int az), .val (.int pp), .val (.int ff), .val (.int (Int32.ofNat ne)), .unset, .unset, .unset, .unset, .unset, .unset, .unset] [(.int (own_ch (5 : Int32) pp zz az ff vbits)), (.int (5 : Int32)), (.ref b7), (.ref b7)])) _
    refine st25 _ ?_
    show Steps p.tables e below (T25.setTop (mkF m 151 #[.val (.int vlay), .val (.int vend), .val (.int vsc), .val (.long vbits), .second, .val (.int zz), .val (.int az), .val (.int pp), .val (.int ff), .val (.int (Int32.ofNat ne)), .unset, .unset, .unset, .unset, .unset, .unset, .unset] [(.ref b7)])) _
    refine XS.dup X25.here hx rfl (hb hby at_151) rfl rfl ?_
    show Steps p.tables e below (T25.setTop (mkF m 152 #[.val (.int vlay), .val (.int vend), .val (.int vsc), .val (.long vbits), .second, .val (.int zz), .val (.int az), .val (.int pp), .val (.int ff), .val (.int (Int32.ofNat ne)), .unset, .unset, .unset, .unset, .unset, .unset, .unset] [(.ref b7), (.ref b7)])) _
    refine XS.bipush X25.here hx rfl (hb hby at_152) ?_
    show Steps p.tables e below (T25.setTop (mkF m 154 #[.val (.int vlay), .val (.int vend), .val (.int vsc), .val (.long vbits), .second, .val (.int zz), .val (.int az), .val (.int pp), .val (.int ff), .val (.int (Int32.ofNat ne)), .unset, .unset, .unset, .unset, .unset, .unset, .unset] [(.int (6 : Int32)), (.ref b7), (.ref b7)])) _
    refine XS.bipush X25.here hx rfl (hb hby at_154) ?_
    show Steps p.tables e below (T25.setTop (mkF m 156 #[.val (.int vlay), .val (.int vend), .val (.int vsc), .val (.long vbits), .second, .val (.int zz), .val (.int az), .val (.int pp), .val (.int ff), .val (.int (Int32.ofNat ne)), .unset, .unset, .unset, .unset, .unset, .unset, .unset] [(.int (6 : Int32)), (.int (6 : Int32)), (.ref b7), (.ref b7)])) _
    refine XS.iload X25.here hx rfl (hb hby at_156) rfl ?_
    show Steps p.tables e below (T25.setTop (mkF m 158 #[.val (.int vlay), .val (.int vend), .val (.int vsc), .val (.long vbits), .second, .val (.int zz), .val (.int az), .val (.int pp), .val (.int ff), .val (.int (Int32.ofNat ne)), .unset, .unset, .unset, .unset, .unset, .unset, .unset] [(.int pp), (.int (6 : Int32)), (.int (6 : Int32)), (.ref b7), (.ref b7)])) _
    refine XS.iload X25.here hx rfl (hb hby at_158) rfl ?_
    show Steps p.tables e below (T25.setTop (mkF m 160 #[.val (.int vlay), .val (.int vend), .val (.int vsc), .val (.long vbits), .second, .val (.int zz), .val (.int az), .val (.int pp), .val (.int ff), .val (.int (Int32.ofNat ne)), .unset, .unset, .unset, .unset, .unset, .unset, .unset] [(.int zz), (.int pp), (.int (6 : Int32)), (.int (6 : Int32)), (.ref b7), (.ref b7)])) _
    refine XS.iload X25.here hx rfl (hb hby at_160) rfl ?_
    show Steps p.tables e below (T25.setTop (mkF m 162 #[.val (.int vlay), .val (.int vend), .val (.int vsc), .val (.long vbits), .second, .val (.int zz), .val (.int az), .val (.int pp), .val (.int ff), .val (.int (Int32.ofNat ne)), .unset, .unset, .unset, .unset, .unset, .unset, .unset] [(.int az), (.int zz), (.int pp), (.int (6 : Int32)), (.int (6 : Int32)), (.ref b7), (.ref b7)])) _
    refine XS.iload X25.here hx rfl (hb hby at_162) rfl ?_
    show Steps p.tables e below (T25.setTop (mkF m 164 #[.val (.int vlay), .val (.int vend), .val (.int vsc), .val (.long vbits), .second, .val (.int zz), .val (.int az), .val (.int pp), .val (.int ff), .val (.int (Int32.ofNat ne)), .unset, .unset, .unset, .unset, .unset, .unset, .unset] [(.int ff), (.int az), (.int zz), (.int pp), (.int (6 : Int32)), (.int (6 : Int32)), (.ref b7), (.ref b7)])) _
    refine XS.lloadN X25.here hx rfl (hb hby at_164) rfl ?_
    show Steps p.tables e below (T25.setTop (mkF m 165 #[.val (.int vlay), .val (.int vend), .val (.int vsc), .val (.long vbits), .second, .val (.int zz), .val (.int az), .val (.int pp), .val (.int ff), .val (.int (Int32.ofNat ne)), .unset, .unset, .unset, .unset, .unset, .unset, .unset] [(.long vbits), (.int ff), (.int az), (.int zz), (.int pp), (.int (6 : Int32)), (.int (6 : Int32)), (.ref b7), (.ref b7)])) _
    refine st26 _ ?_
    show Steps p.tables e below (T26.setTop (mkF m 168 #[.val (.int vlay), .val (.int vend), .val (.int vsc), .val (.long vbits), .second, .val (.int zz), .val (.int az), .val (.int pp), .val (.int ff), .val (.int (Int32.ofNat ne)), .unset, .unset, .unset, .unset, .unset, .unset, .unset] [(.int (own_ch (6 : Int32) pp zz az ff vbits)), (.int (6 : Int32)), (.ref b7), (.ref b7)])) _
    refine st28 _ ?_
    show Steps p.tables e below (T28.setTop (mkF m 169 #[.val (.int vlay), .val (.int vend), .val (.int vsc), .val (.long vbits), .second, .val (.int zz), .val (.int az), .val (.int pp), .val (.int ff), .val (.int (Int32.ofNat ne)), .unset, .unset, .unset, .unset, .unset, .unset, .unset] [(.ref b7)])) _
    refine XS.dup X28.here hx rfl (hb hby at_169) rfl rfl ?_
    show Steps p.tables e below (T28.setTop (mkF m 170 #[.val (.int vlay), .val (.int vend), .val (.int vsc), .val (.long vbits), .second, .val (.int zz), .val (.int az), .val (.int pp), .val (.int ff), .val (.int (Int32.ofNat ne)), .unset, .unset, .unset, .unset, .unset, .unset, .unset] [(.ref b7), (.ref b7)])) _
    refine XS.bipush X28.here hx rfl (hb hby at_170) ?_
    show Steps p.tables e below (T28.setTop (mkF m 172 #[.val (.int vlay), .val (.int vend), .val (.int vsc), .val (.long vbits), .second, .val (.int zz), .val (.int az), .val (.int pp), .val (.int ff), .val (.int (Int32.ofNat ne)), .unset, .unset, .unset, .unset, .unset, .unset, .unset] [(.int (7 : Int32)), (.ref b7), (.ref b7)])) _
    refine XS.bipush X28.here hx rfl (hb hby at_172) ?_
    show Steps p.tables e below (T28.setTop (mkF m 174 #[.val (.int vlay), .val (.int vend), .val (.int vsc), .val (.long vbits), .second, .val (.int zz), .val (.int az), .val (.int pp), .val (.int ff), .val (.int (Int32.ofNat ne)), .unset, .unset, .unset, .unset, .unset, .unset, .unset] [(.int (7 : Int32)), (.int (7 : Int32)), (.ref b7), (.ref b7)])) _
    refine XS.iload X28.here hx rfl (hb hby at_174) rfl ?_
    show Steps p.tables e below (T28.setTop (mkF m 176 #[.val (.int vlay), .val (.int vend), .val (.int vsc), .val (.long vbits), .second, .val (.int zz), .val (.int az), .val (.int pp), .val (.int ff), .val (.int (Int32.ofNat ne)), .unset, .unset, .unset, .unset, .unset, .unset, .unset] [(.int pp), (.int (7 : Int32)), (.int (7 : Int32)), (.ref b7), (.ref b7)])) _
    refine XS.iload X28.here hx rfl (hb hby at_176) rfl ?_
    show Steps p.tables e below (T28.setTop (mkF m 178 #[.val (.int vlay), .val (.int vend), .val (.int vsc), .val (.long vbits), .second, .val (.int zz), .val (.int az), .val (.int pp), .val (.int ff), .val (.int (Int32.ofNat ne)), .unset, .unset, .unset, .unset, .unset, .unset, .unset] [(.int zz), (.int pp), (.int (7 : Int32)), (.int (7 : Int32)), (.ref b7), (.ref b7)])) _
    refine XS.iload X28.here hx rfl (hb hby at_178) rfl ?_
    show Steps p.tables e below (T28.setTop (mkF m 180 #[.val (.int vlay), .val (.int vend), .val (.int vsc), .val (.long vbits), .second, .val (.int zz), .val (.int az), .val (.int pp), .val (.int ff), .val (.int (Int32.ofNat ne)), .unset, .unset, .unset, .unset, .unset, .unset, .unset] [(.int az), (.int zz), (.int pp), (.int (7 : Int32)), (.int (7 : Int32)), (.ref b7), (.ref b7)])) _
    refine XS.iload X28.here hx rfl (hb hby at_180) rfl ?_
    show Steps p.tables e below (T28.setTop (mkF m 182 #[.val (.int vlay), .val (.int vend), .val (.int vsc), .val (.long vbits), .second, .val (.int zz), .val (.int az), .val (.int pp), .val (.int ff), .val (.int (Int32.ofNat ne)), .unset, .unset, .unset, .unset, .unset, .unset, .unset] [(.int ff), (.int az), (.int zz), (.int pp), (.int (7 : Int32)), (.int (7 : Int32)), (.ref b7), (.ref b7)])) _
    refine XS.lloadN X28.here hx rfl (hb hby at_182) rfl ?_
    show Steps p.tables e below (T28.setTop (mkF m 183 #[.val (.int vlay), .val (.int vend), .val (.int vsc), .val (.long vbits), .second, .val (.int zz), .val (.int az), .val (.int pp), .val (.int ff), .val (.int (Int32.ofNat ne)), .unset, .unset, .unset, .unset, .unset, .unset, .unset] [(.long vbits), (.int ff), (.int az), (.int zz), (.int pp), (.int (7 : Int32)), (.int (7 : Int32)), (.ref b7), (.ref b7)])) _
    refine st29 _ ?_
    show Steps p.tables e below (T29.setTop (mkF m 186 #[.val (.int vlay), .val (.int vend), .val (.int vsc), .val (.long vbits), .second, .val (.int zz), .val (.int az), .val (.int pp), .val (.int ff), .val (.int (Int32.ofNat ne)), .unset, .unset, .unset, .unset, .unset, .unset, .unset] [(.int (own_ch (7 : Int32) pp zz az ff vbits)), (.int (7 : Int32)), (.ref b7), (.ref b7)])) _
    refine st31 _ ?_
    show Steps p.tables e below (T31.setTop (mkF m 187 #[.val (.int vlay), .val (.int vend), .val (.int vsc), .val (.long vbits), .second, .val (.int zz), .val (.int az), .val (.int pp), .val (.int ff), .val (.int (Int32.ofNat ne)), .unset, .unset, .unset, .unset, .unset, .unset, .unset] [(.ref b7)])) _
    refine XS.dup X31.here hx rfl (hb hby at_187) rfl rfl ?_
    show Steps p.tables e below (T31.setTop (mkF m 188 #[.val (.int vlay), .val (.int vend), .val (.int vsc), .val (.long vbits), .second, .val (.int zz), .val (.int az), .val (.int pp), .val (.int ff), .val (.int (Int32.ofNat ne)), .unset, .unset, .unset, .unset, .unset, .unset, .unset] [(.ref b7), (.ref b7)])) _
    refine XS.bipush X31.here hx rfl (hb hby at_188) ?_
    show Steps p.tables e below (T31.setTop (mkF m 190 #[.val (.int vlay), .val (.int vend), .val (.int vsc), .val (.long vbits), .second, .val (.int zz), .val (.int az), .val (.int pp), .val (.int ff), .val (.int (Int32.ofNat ne)), .unset, .unset, .unset, .unset, .unset, .unset, .unset] [(.int (8 : Int32)), (.ref b7), (.ref b7)])) _
    refine XS.bipush X31.here hx rfl (hb hby at_190) ?_
    show Steps p.tables e below (T31.setTop (mkF m 192 #[.val (.int vlay), .val (.int vend), .val (.int vsc), .val (.long vbits), .second, .val (.int zz), .val (.int az), .val (.int pp), .val (.int ff), .val (.int (Int32.ofNat ne)), .unset, .unset, .unset, .unset, .unset, .unset, .unset] [(.int (8 : Int32)), (.int (8 : Int32)), (.ref b7), (.ref b7)])) _
    refine XS.iload X31.here hx rfl (hb hby at_192) rfl ?_
    show Steps p.tables e below (T31.setTop (mkF m 194 #[.val (.int vlay), .val (.int vend), .val (.int vsc), .val (.long vbits), .second, .val (.int zz), .val (.int az), .val (.int pp), .val (.int ff), .val (.int (Int32.ofNat ne)), .unset, .unset, .unset, .unset, .unset, .unset, .unset] [(.int pp), (.int (8 : Int32)), (.int (8 : Int32)), (.ref b7), (.ref b7)])) _
    refine XS.iload X31.here hx rfl (hb hby at_194) rfl ?_
    show Steps p.tables e below (T31.setTop (mkF m 196 #[.val (.int vlay), .val (.int vend), .val (.int vsc), .val (.long vbits), .second, .val (.int zz), .val (.int az), .val (.int pp), .val (.int ff), .val (.int (Int32.ofNat ne)), .unset, .unset, .unset, .unset, .unset, .unset, .unset] [(.int zz), (.int pp), (.int (8 : Int32)), (.int (8 : Int32)), (.ref b7), (.ref b7)])) _
    refine XS.iload X31.here hx rfl (hb hby at_196) rfl ?_
    show Steps p.tables e below (T31.setTop (mkF m 198 #[.val (.int vlay), .val (.int vend), .val (.int vsc), .val (.long vbits), .second, .val (.int zz), .val (.int az), .val (.int pp), .val (.int ff), .val (.int (Int32.ofNat ne)), .unset, .unset, .unset, .unset, .unset, .unset, .unset] [(.int az), (.int zz), (.int pp), (.int (8 : Int32)), (.int (8 : Int32)), (.ref b7), (.ref b7)])) _
    refine XS.iload X31.here hx rfl (hb hby at_198) rfl ?_
    show Steps p.tables e below (T31.setTop (mkF m 200 #[.val (.int vlay), .val (.int vend), .val (.int vsc), .val (.long vbits), .second, .val (.int zz), .val (.int az), .val (.int pp), .val (.int ff), .val (.int (Int32.ofNat ne)), .unset, .unset, .unset, .unset, .unset, .unset, .unset] [(.int ff), (.int az), (.int zz), (.int pp), (.int (8 : Int32)), (.int (8 : Int32)), (.ref b7), (.ref b7)])) _
    refine XS.lloadN X31.here hx rfl (hb hby at_200) rfl ?_
    show Steps p.tables e below (T31.setTop (mkF m 201 #[.val (.int vlay), .val (.int vend), .val (.int vsc), .val (.long vbits), .second, .val (.int zz), .val (.int az), .val (.int pp), .val (.int ff), .val (.int (Int32.ofNat ne)), .unset, .unset, .unset, .unset, .unset, .unset, .unset] [(.long vbits), (.int ff), (.int az), (.int zz), (.int pp), (.int (8 : Int32)), (.int (8 : Int32)), (.ref b7), (.ref b7)])) _
    refine st32 _ ?_
    show Steps p.tables e below (T32.setTop (mkF m 204 #[.val (.int vlay), .val (.int vend), .val (.int vsc), .val (.long vbits), .second, .val (.int zz), .val (.int az), .val (.int pp), .val (.int ff), .val (.int (Int32.ofNat ne)), .unset, .unset, .unset, .unset, .unset, .unset, .unset] [(.int (own_ch (8 : Int32) pp zz az ff vbits)), (.int (8 : Int32)), (.ref b7), (.ref b7)])) _
    refine st34 _ ?_
    show Steps p.tables e below (T34.setTop (mkF m 205 #[.val (.int vlay), .val (.int vend), .val (.int vsc), .val (.long vbits), .second, .val (.int zz), .val (.int az), .val (.int pp), .val (.int ff), .val (.int (Int32.ofNat ne)), .unset, .unset, .unset, .unset, .unset, .unset, .unset] [(.ref b7)])) _
    refine XS.dup X34.here hx rfl (hb hby at_205) rfl rfl ?_
    show Steps p.tables e below (T34.setTop (mkF m 206 #[.val (.int vlay), .val (.int vend), .val (.int vsc), .val (.long vbits), .second, .val (.int zz), .val (.int az), .val (.int pp), .val (.int ff), .val (.int (Int32.ofNat ne)), .unset, .unset, .unset, .unset, .unset, .unset, .unset] [(.ref b7), (.ref b7)])) _
    refine XS.bipush X34.here hx rfl (hb hby at_206) ?_
    show Steps p.tables e below (T34.setTop (mkF m 208 #[.val (.int vlay), .val (.int vend), .val (.int vsc), .val (.long vbits), .second, .val (.int zz), .val (.int az), .val (.int pp), .val (.int ff), .val (.int (Int32.ofNat ne)), .unset, .unset, .unset, .unset, .unset, .unset, .unset] [(.int (9 : Int32)), (.ref b7), (.ref b7)])) _
    refine XS.bipush X34.here hx rfl (hb hby at_208) ?_
    show Steps p.tables e below (T34.setTop (mkF m 210 #[.val (.int vlay), .val (.int vend), .val (.int vsc), .val (.long vbits), .second, .val (.int zz), .val (.int az), .val (.int pp), .val (.int ff), .val (.int (Int32.ofNat ne)), .unset, .unset, .unset, .unset, .unset, .unset, .unset] [(.int (9 : Int32)), (.int (9 : Int32)), (.ref b7), (.ref b7)])) _
    refine XS.iload X34.here hx rfl (hb hby at_210) rfl ?_
    show Steps p.tables e below (T34.setTop (mkF m 212 #[.val (.int vlay), .val (.int vend), .val (.int vsc), .val (.long vbits), .second, .val (.int zz), .val (.int az), .val (.int pp), .val (.int ff), .val (.int (Int32.ofNat ne)), .unset, .unset, .unset, .unset, .unset, .unset, .unset] [(.int pp), (.int (9 : Int32)), (.int (9 : Int32)), (.ref b7), (.ref b7)])) _
    refine XS.iload X34.here hx rfl (hb hby at_212) rfl ?_
    show Steps p.tables e below (T34.setTop (mkF m 214 #[.val (.int vlay), .val (.int vend), .val (.int vsc), .val (.long vbits), .second, .val (.int zz), .val (.int az), .val (.int pp), .val (.int ff), .val (.int (Int32.ofNat ne)), .unset, .unset, .unset, .unset, .unset, .unset, .unset] [(.int zz), (.int pp), (.int (9 : Int32)), (.int (9 : Int32)), (.ref b7), (.ref b7)])) _
    refine XS.iload X34.here hx rfl (hb hby at_214) rfl ?_
    show Steps p.tables e below (T34.setTop (mkF m 216 #[.val (.int vlay), .val (.int vend), .val (.int vsc), .val (.long vbits), .second, .val (.int zz), .val (.int az), .val (.int pp), .val (.int ff), .val (.int (Int32.ofNat ne)), .unset, .unset, .unset, .unset, .unset, .unset, .unset] [(.int az), (.int zz), (.int pp), (.int (9 : Int32)), (.int (9 : Int32)), (.ref b7), (.ref b7)])) _
    refine XS.iload X34.here hx rfl (hb hby at_216) rfl ?_
    show Steps p.tables e below (T34.setTop (mkF m 218 #[.val (.int vlay), .val (.int vend), .val (.int vsc), .val (.long vbits), .second, .val (.int zz), .val (.int az), .val (.int pp), .val (.int ff), .val (.int (Int32.ofNat ne)), .unset, .unset, .unset, .unset, .unset, .unset, .unset] [(.int ff), (.int az), (.int zz), (.int pp), (.int (9 : Int32)), (.int (9 : Int32)), (.ref b7), (.ref b7)])) _
    refine XS.lloadN X34.here hx rfl (hb hby at_218) rfl ?_
    show Steps p.tables e below (T34.setTop (mkF m 219 #[.val (.int vlay), .val (.int vend), .val (.int vsc), .val (.long vbits), .second, .val (.int zz), .val (.int az), .val (.int pp), .val (.int ff), .val (.int (Int32.ofNat ne)), .unset, .unset, .unset, .unset, .unset, .unset, .unset] [(.long vbits), (.int ff), (.int az), (.int zz), (.int pp), (.int (9 : Int32)), (.int (9 : Int32)), (.ref b7), (.ref b7)])) _
    refine st35 _ ?_
    show Steps p.tables e below (T35.setTop (mkF m 222 #[.val (.int vlay), .val (.int vend), .val (.int vsc), .val (.long vbits), .second, .val (.int zz), .val (.int az), .val (.int pp), .val (.int ff), .val (.int (Int32.ofNat ne)), .unset, .unset, .unset, .unset, .unset, .unset, .unset] [(.int (own_ch (9 : Int32) pp zz az ff vbits)), (.int (9 : Int32)), (.ref b7), (.ref b7)])) _
    refine st37 _ ?_
    show Steps p.tables e below (T37.setTop (mkF m 223 #[.val (.int vlay), .val (.int vend), .val (.int vsc), .val (.long vbits), .second, .val (.int zz), .val (.int az), .val (.int pp), .val (.int ff), .val (.int (Int32.ofNat ne)), .unset, .unset, .unset, .unset, .unset, .unset, .unset] [(.ref b7)])) _
    refine XS.dup X37.here hx rfl (hb hby at_223) rfl rfl ?_
    show Steps p.tables e below (T37.setTop (mkF m 224 #[.val (.int vlay), .val (.int vend), .val (.int vsc), .val (.long vbits), .second, .val (.int zz), .val (.int az), .val (.int pp), .val (.int ff), .val (.int (Int32.ofNat ne)), .unset, .unset, .unset, .unset, .unset, .unset, .unset] [(.ref b7), (.ref b7)])) _
    refine XS.bipush X37.here hx rfl (hb hby at_224) ?_
    show Steps p.tables e below (T37.setTop (mkF m 226 #[.val (.int vlay), .val (.int vend), .val (.int vsc), .val (.long vbits), .second, .val (.int zz), .val (.int az), .val (.int pp), .val (.int ff), .val (.int (Int32.ofNat ne)), .unset, .unset, .unset, .unset, .unset, .unset, .unset] [(.int (10 : Int32)), (.ref b7), (.ref b7)])) _
    refine XS.bipush X37.here hx rfl (hb hby at_226) ?_
    show Steps p.tables e below (T37.setTop (mkF m 228 #[.val (.int vlay), .val (.int vend), .val (.int vsc), .val (.long vbits), .second, .val (.int zz), .val (.int az), .val (.int pp), .val (.int ff), .val (.int (Int32.ofNat ne)), .unset, .unset, .unset, .unset, .unset, .unset, .unset] [(.int (10 : Int32)), (.int (10 : Int32)), (.ref b7), (.ref b7)])) _
    refine XS.iload X37.here hx rfl (hb hby at_228) rfl ?_
    show Steps p.tables e below (T37.setTop (mkF m 230 #[.val (.int vlay), .val (.int vend), .val (.int vsc), .val (.long vbits), .second, .val (.int zz), .val (.int az), .val (.int pp), .val (.int ff), .val (.int (Int32.ofNat ne)), .unset, .unset, .unset, .unset, .unset, .unset, .unset] [(.int pp), (.int (10 : Int32)), (.int (10 : Int32)), (.ref b7), (.ref b7)])) _
    refine XS.iload X37.here hx rfl (hb hby at_230) rfl ?_
    show Steps p.tables e below (T37.setTop (mkF m 232 #[.val (.int vlay), .val (.int vend), .val (.int vsc), .val (.long vbits), .second, .val (.int zz), .val (.int az), .val (.int pp), .val (.int ff), .val (.int (Int32.ofNat ne)), .unset, .unset, .unset, .unset, .unset, .unset, .unset] [(.int zz), (.int pp), (.int (10 : Int32)), (.int (10 : Int32)), (.ref b7), (.ref b7)])) _
    refine XS.iload X37.here hx rfl (hb hby at_232) rfl ?_
    show Steps p.tables e below (T37.setTop (mkF m 234 #[.val (.int vlay), .val (.int vend), .val (.int vsc), .val (.long vbits), .second, .val (.int zz), .val (.int az), .val (.int pp), .val (.int ff), .val (.int (Int32.ofNat ne)), .unset, .unset, .unset, .unset, .unset, .unset, .unset] [(.int az), (.int zz), (.int pp), (.int (10 : Int32)), (.int (10 : Int32)), (.ref b7), (.ref b7)])) _
    refine XS.iload X37.here hx rfl (hb hby at_234) rfl ?_
    show Steps p.tables e below (T37.setTop (mkF m 236 #[.val (.int vlay), .val (.int vend), .val (.int vsc), .val (.long vbits), .second, .val (.int zz), .val (.int az), .val (.int pp), .val (.int ff), .val (.int (Int32.ofNat ne)), .unset, .unset, .unset, .unset, .unset, .unset, .unset] [(.int ff), (.int az), (.int zz), (.int pp), (.int (10 : Int32)), (.int (10 : Int32)), (.ref b7), (.ref b7)])) _
    refine XS.lloadN X37.here hx rfl (hb hby at_236) rfl ?_
    show Steps p.tables e below (T37.setTop (mkF m 237 #[.val (.int vlay), .val (.int vend), .val (.int vsc), .val (.long vbits), .second, .val (.int zz), .val (.int az), .val (.int pp), .val (.int ff), .val (.int (Int32.ofNat ne)), .unset, .unset, .unset, .unset, .unset, .unset, .unset] [(.long vbits), (.int ff), (.int az), (.int zz), (.int pp), (.int (10 : Int32)), (.int (10 : Int32)), (.ref b7), (.ref b7)])) _
    refine st38 _ ?_
    show Steps p.tables e below (T38.setTop (mkF m 240 #[.val (.int vlay), .val (.int vend), .val (.int vsc), .val (.long vbits), .second, .val (.int zz), .val (.int az), .val (.int pp), .val (.int ff), .val (.int (Int32.ofNat ne)), .unset, .unset, .unset, .unset, .unset, .unset, .unset] [(.int (own_ch (10 : Int32) pp zz az ff vbits)), (.int (10 : Int32)), (.ref b7), (.ref b7)])) _
    refine st40 _ ?_
    show Steps p.tables e below (T40.setTop (mkF m 241 #[.val (.int vlay), .val (.int vend), .val (.int vsc), .val (.long vbits), .second, .val (.int zz), .val (.int az), .val (.int pp), .val (.int ff), .val (.int (Int32.ofNat ne)), .unset, .unset, .unset, .unset, .unset, .unset, .unset] [(.ref b7)])) _
    refine XS.dup X40.here hx rfl (hb hby at_241) rfl rfl ?_
    show Steps p.tables e below (T40.setTop (mkF m 242 #[.val (.int vlay), .val (.int vend), .val (.int vsc), .val (.long vbits), .second, .val (.int zz), .val (.int az), .val (.int pp), .val (.int ff), .val (.int (Int32.ofNat ne)), .unset, .unset, .unset, .unset, .unset, .unset, .unset] [(.ref b7), (.ref b7)])) _
    refine XS.bipush X40.here hx rfl (hb hby at_242) ?_
    show Steps p.tables e below (T40.setTop (mkF m 244 #[.val (.int vlay), .val (.int vend), .val (.int vsc), .val (.long vbits), .second, .val (.int zz), .val (.int az), .val (.int pp), .val (.int ff), .val (.int (Int32.ofNat ne)), .unset, .unset, .unset, .unset, .unset, .unset, .unset] [(.int (11 : Int32)), (.ref b7), (.ref b7)])) _
    refine XS.bipush X40.here hx rfl (hb hby at_244) ?_
    show Steps p.tables e below (T40.setTop (mkF m 246 #[.val (.int vlay), .val (.int vend), .val (.int vsc), .val (.long vbits), .second, .val (.int zz), .val (.int az), .val (.int pp), .val (.int ff), .val (.int (Int32.ofNat ne)), .unset, .unset, .unset, .unset, .unset, .unset, .unset] [(.int (11 : Int32)), (.int (11 : Int32)), (.ref b7), (.ref b7)])) _
    refine XS.iload X40.here hx rfl (hb hby at_246) rfl ?_
    show Steps p.tables e below (T40.setTop (mkF m 248 #[.val (.int vlay), .val (.int vend), .val (.int vsc), .val (.long vbits), .second, .val (.int zz), .val (.int az), .val (.int pp), .val (.int ff), .val (.int (Int32.ofNat ne)), .unset, .unset, .unset, .unset, .unset, .unset, .unset] [(.int pp), (.int (11 : Int32)), (.int (11 : Int32)), (.ref b7), (.ref b7)])) _
    refine XS.iload X40.here hx rfl (hb hby at_248) rfl ?_
    show Steps p.tables e below (T40.setTop (mkF m 250 #[.val (.int vlay), .val (.int vend), .val (.int vsc), .val (.long vbits), .second, .val (.int zz), .val (.int az), .val (.int pp), .val (.int ff), .val (.int (Int32.ofNat ne)), .unset, .unset, .unset, .unset, .unset, .unset, .unset] [(.int zz), (.int pp), (.int (11 : Int32)), (.int (11 : Int32)), (.ref b7), (.ref b7)])) _
    refine XS.iload X40.here hx rfl (hb hby at_250) rfl ?_
    show Steps p.tables e below (T40.setTop (mkF m 252 #[.val (.int vlay), .val (.int vend), .val (.int vsc), .val (.long vbits), .second, .val (.int zz), .val (.int az), .val (.int pp), .val (.int ff), .val (.int (Int32.ofNat ne)), .unset, .unset, .unset, .unset, .unset, .unset, .unset] [(.int az), (.int zz), (.int pp), (.int (11 : Int32)), (.int (11 : Int32)), (.ref b7), (.ref b7)])) _
    refine XS.iload X40.here hx rfl (hb hby at_252) rfl ?_
    show Steps p.tables e below (T40.setTop (mkF m 254 #[.val (.int vlay), .val (.int vend), .val (.int vsc), .val (.long vbits), .second, .val (.int zz), .val (.int az), .val (.int pp), .val (.int ff), .val (.int (Int32.ofNat ne)), .unset, .unset, .unset, .unset, .unset, .unset, .unset] [(.int ff), (.int az), (.int zz), (.int pp), (.int (11 : Int32)), (.int (11 : Int32)), (.ref b7), (.ref b7)])) _
    refine XS.lloadN X40.here hx rfl (hb hby at_254) rfl ?_
    show Steps p.tables e below (T40.setTop (mkF m 255 #[.val (.int vlay), .val (.int vend), .val (.int vsc), .val (.long vbits), .second, .val (.int zz), .val (.int az), .val (.int pp), .val (.int ff), .val (.int (Int32.ofNat ne)), .unset, .unset, .unset, .unset, .unset, .unset, .unset] [(.long vbits), (.int ff), (.int az), (.int zz), (.int pp), (.int (11 : Int32)), (.int (11 : Int32)), (.ref b7), (.ref b7)])) _
    refine st41 _ ?_
    show Steps p.tables e below (T41.setTop (mkF m 258 #[.val (.int vlay), .val (.int vend), .val (.int vsc), .val (.long vbits), .second, .val (.int zz), .val (.int az), .val (.int pp), .val (.int ff), .val (.int (Int32.ofNat ne)), .unset, .unset, .unset, .unset, .unset, .unset, .unset] [(.int (own_ch (11 : Int32) pp zz az ff vbits)), (.int (11 : Int32)), (.ref b7), (.ref b7)])) _
    refine st43 _ ?_
    show Steps p.tables e below (T43.setTop (mkF m 259 #[.val (.int vlay), .val (.int vend), .val (.int vsc), .val (.long vbits), .second, .val (.int zz), .val (.int az), .val (.int pp), .val (.int ff), .val (.int (Int32.ofNat ne)), .unset, .unset, .unset, .unset, .unset, .unset, .unset] [(.ref b7)])) _
    refine XS.dup X43.here hx rfl (hb hby at_259) rfl rfl ?_
    show Steps p.tables e below (T43.setTop (mkF m 260 #[.val (.int vlay), .val (.int vend), .val (.int vsc), .val (.long vbits), .second, .val (.int zz), .val (.int az), .val (.int pp), .val (.int ff), .val (.int (Int32.ofNat ne)), .unset, .unset, .unset, .unset, .unset, .unset, .unset] [(.ref b7), (.ref b7)])) _
    refine XS.bipush X43.here hx rfl (hb hby at_260) ?_
    show Steps p.tables e below (T43.setTop (mkF m 262 #[.val (.int vlay), .val (.int vend), .val (.int vsc), .val (.long vbits), .second, .val (.int zz), .val (.int az), .val (.int pp), .val (.int ff), .val (.int (Int32.ofNat ne)), .unset, .unset, .unset, .unset, .unset, .unset, .unset] [(.int (12 : Int32)), (.ref b7), (.ref b7)])) _
    refine XS.bipush X43.here hx rfl (hb hby at_262) ?_
    show Steps p.tables e below (T43.setTop (mkF m 264 #[.val (.int vlay), .val (.int vend), .val (.int vsc), .val (.long vbits), .second, .val (.int zz), .val (.int az), .val (.int pp), .val (.int ff), .val (.int (Int32.ofNat ne)), .unset, .unset, .unset, .unset, .unset, .unset, .unset] [(.int (12 : Int32)), (.int (12 : Int32)), (.ref b7), (.ref b7)])) _
    refine XS.iload X43.here hx rfl (hb hby at_264) rfl ?_
    show Steps p.tables e below (T43.setTop (mkF m 266 #[.val (.int vlay), .val (.int vend), .val (.int vsc), .val (.long vbits), .second, .val (.int zz), .val (.int az), .val (.int pp), .val (.int ff), .val (.int (Int32.ofNat ne)), .unset, .unset, .unset, .unset, .unset, .unset, .unset] [(.int pp), (.int (12 : Int32)), (.int (12 : Int32)), (.ref b7), (.ref b7)])) _
    refine XS.iload X43.here hx rfl (hb hby at_266) rfl ?_
    show Steps p.tables e below (T43.setTop (mkF m 268 #[.val (.int vlay), .val (.int vend), .val (.int vsc), .val (.long vbits), .second, .val (.int zz), .val (.int az), .val (.int pp), .val (.int ff), .val (.int (Int32.ofNat ne)), .unset, .unset, .unset, .unset, .unset, .unset, .unset] [(.int zz), (.int pp), (.int (12 : Int32)), (.int (12 : Int32)), (.ref b7), (.ref b7)])) _
    refine XS.iload X43.here hx rfl (hb hby at_268) rfl ?_
    show Steps p.tables e below (T43.setTop (mkF m 270 #[.val (.int vlay), .val (.int vend), .val (.int vsc), .val (.long vbits), .second, .val (.int zz), .val (.int az), .val (.int pp), .val (.int ff), .val (.int (Int32.ofNat ne)), .unset, .unset, .unset, .unset, .unset, .unset, .unset] [(.int az), (.int zz), (.int pp), (.int (12 : Int32)), (.int (12 : Int32)), (.ref b7), (.ref b7)])) _
    refine XS.iload X43.here hx rfl (hb hby at_270) rfl ?_
    show Steps p.tables e below (T43.setTop (mkF m 272 #[.val (.int vlay), .val (.int vend), .val (.int vsc), .val (.long vbits), .second, .val (.int zz), .val (.int az), .val (.int pp), .val (.int ff), .val (.int (Int32.ofNat ne)), .unset, .unset, .unset, .unset, .unset, .unset, .unset] [(.int ff), (.int az), (.int zz), (.int pp), (.int (12 : Int32)), (.int (12 : Int32)), (.ref b7), (.ref b7)])) _
    refine XS.lloadN X43.here hx rfl (hb hby at_272) rfl ?_
    show Steps p.tables e below (T43.setTop (mkF m 273 #[.val (.int vlay), .val (.int vend), .val (.int vsc), .val (.long vbits), .second, .val (.int zz), .val (.int az), .val (.int pp), .val (.int ff), .val (.int (Int32.ofNat ne)), .unset, .unset, .unset, .unset, .unset, .unset, .unset] [(.long vbits), (.int ff), (.int az), (.int zz), (.int pp), (.int (12 : Int32)), (.int (12 : Int32)), (.ref b7), (.ref b7)])) _
    refine st44 _ ?_
    show Steps p.tables e below (T44.setTop (mkF m 276 #[.val (.int vlay), .val (.int vend), .val (.int vsc), .val (.long vbits), .second, .val (.int zz), .val (.int az), .val (.int pp), .val (.int ff), .val (.int (Int32.ofNat ne)), .unset, .unset, .unset, .unset, .unset, .unset, .unset] [(.int (own_ch (12 : Int32) pp zz az ff vbits)), (.int (12 : Int32)), (.ref b7), (.ref b7)])) _
    refine st46 _ ?_
    show Steps p.tables e below (T46.setTop (mkF m 277 #[.val (.int vlay), .val (.int vend), .val (.int vsc), .val (.long vbits), .second, .val (.int zz), .val (.int az), .val (.int pp), .val (.int ff), .val (.int (Int32.ofNat ne)), .unset, .unset, .unset, .unset, .unset, .unset, .unset] [(.ref b7)])) _
    refine XS.dup X46.here hx rfl (hb hby at_277) rfl rfl ?_
    show Steps p.tables e below (T46.setTop (mkF m 278 #[.val (.int vlay), .val (.int vend), .val (.int vsc), .val (.long vbits), .second, .val (.int zz), .val (.int az), .val (.int pp), .val (.int ff), .val (.int (Int32.ofNat ne)), .unset, .unset, .unset, .unset, .unset, .unset, .unset] [(.ref b7), (.ref b7)])) _
    refine XS.bipush X46.here hx rfl (hb hby at_278) ?_
    show Steps p.tables e below (T46.setTop (mkF m 280 #[.val (.int vlay), .val (.int vend), .val (.int vsc), .val (.long vbits), .second, .val (.int zz), .val (.int az), .val (.int pp), .val (.int ff), .val (.int (Int32.ofNat ne)), .unset, .unset, .unset, .unset, .unset, .unset, .unset] [(.int (13 : Int32)), (.ref b7), (.ref b7)])) _
    refine XS.bipush X46.here hx rfl (hb hby at_280) ?_
    show Steps p.tables e below (T46.setTop (mkF m 282 #[.val (.int vlay), .val (.int vend), .val (.int vsc), .val (.long vbits), .second, .val (.int zz), .val (.int az), .val (.int pp), .val (.int ff), .val (.int (Int32.ofNat ne)), .unset, .unset, .unset, .unset, .unset, .unset, .unset] [(.int (13 : Int32)), (.int (13 : Int32)), (.ref b7), (.ref b7)])) _
    refine XS.iload X46.here hx rfl (hb hby at_282) rfl ?_
    show Steps p.tables e below (T46.setTop (mkF m 284 #[.val (.int vlay), .val (.int vend), .val (.int vsc), .val (.long vbits), .second, .val (.int zz), .val (.int az), .val (.int pp), .val (.int ff), .val (.int (Int32.ofNat ne)), .unset, .unset, .unset, .unset, .unset, .unset, .unset] [(.int pp), (.int (13 : Int32)), (.int (13 : Int32)), (.ref b7), (.ref b7)])) _
    refine XS.iload X46.here hx rfl (hb hby at_284) rfl ?_
    show Steps p.tables e below (T46.setTop (mkF m 286 #[.val (.int vlay), .val (.int vend), .val (.int vsc), .val (.long vbits), .second, .val (.int zz), .val (.int az), .val (.int pp), .val (.int ff), .val (.int (Int32.ofNat ne)), .unset, .unset, .unset, .unset, .unset, .unset, .unset] [(.int zz), (.int pp), (.int (13 : Int32)), (.int (13 : Int32)), (.ref b7), (.ref b7)])) _
    refine XS.iload X46.here hx rfl (hb hby at_286) rfl ?_
    show Steps p.tables e below (T46.setTop (mkF m 288 #[.val (.int vlay), .val (.int vend), .val (.int vsc), .val (.long vbits), .second, .val (.int zz), .val (.int az), .val (.int pp), .val (.int ff), .val (.int (Int32.ofNat ne)), .unset, .unset, .unset, .unset, .unset, .unset, .unset] [(.int az), (.int zz), (.int pp), (.int (13 : Int32)), (.int (13 : Int32)), (.ref b7), (.ref b7)])) _
    refine XS.iload X46.here hx rfl (hb hby at_288) rfl ?_
    show Steps p.tables e below (T46.setTop (mkF m 290 #[.val (.int vlay), .val (.int vend), .val (.int vsc), .val (.long vbits), .second, .val (.int zz), .val (.int az), .val (.int pp), .val (.int ff), .val (.int (Int32.ofNat ne)), .unset, .unset, .unset, .unset, .unset, .unset, .unset] [(.int ff), (.int az), (.int zz), (.int pp), (.int (13 : Int32)), (.int (13 : Int32)), (.ref b7), (.ref b7)])) _
    refine XS.lloadN X46.here hx rfl (hb hby at_290) rfl ?_
    show Steps p.tables e below (T46.setTop (mkF m 291 #[.val (.int vlay), .val (.int vend), .val (.int vsc), .val (.long vbits), .second, .val (.int zz), .val (.int az), .val (.int pp), .val (.int ff), .val (.int (Int32.ofNat ne)), .unset, .unset, .unset, .unset, .unset, .unset, .unset] [(.long vbits), (.int ff), (.int az), (.int zz), (.int pp), (.int (13 : Int32)), (.int (13 : Int32)), (.ref b7), (.ref b7)])) _
    refine st47 _ ?_
    show Steps p.tables e below (T47.setTop (mkF m 294 #[.val (.int vlay), .val (.int vend), .val (.int vsc), .val (.long vbits), .second, .val (.int zz), .val (.int az), .val (.int pp), .val (.int ff), .val (.int (Int32.ofNat ne)), .unset, .unset, .unset, .unset, .unset, .unset, .unset] [(.int (own_ch (13 : Int32) pp zz az ff vbits)), (.int (13 : Int32)), (.ref b7), (.ref b7)])) _
    refine st49 _ ?_
    show Steps p.tables e below (T49.setTop (mkF m 295 #[.val (.int vlay), .val (.int vend), .val (.int vsc), .val (.long vbits), .second, .val (.int zz), .val (.int az), .val (.int pp), .val (.int ff), .val (.int (Int32.ofNat ne)), .unset, .unset, .unset, .unset, .unset, .unset, .unset] [(.ref b7)])) _
    refine XS.dup X49.here hx rfl (hb hby at_295) rfl rfl ?_
    show Steps p.tables e below (T49.setTop (mkF m 296 #[.val (.int vlay), .val (.int vend), .val (.int vsc), .val (.long vbits), .second, .val (.int zz), .val (.int az), .val (.int pp), .val (.int ff), .val (.int (Int32.ofNat ne)), .unset, .unset, .unset, .unset, .unset, .unset, .unset] [(.ref b7), (.ref b7)])) _
    refine XS.bipush X49.here hx rfl (hb hby at_296) ?_
    show Steps p.tables e below (T49.setTop (mkF m 298 #[.val (.int vlay), .val (.int vend), .val (.int vsc), .val (.long vbits), .second, .val (.int zz), .val (.int az), .val (.int pp), .val (.int ff), .val (.int (Int32.ofNat ne)), .unset, .unset, .unset, .unset, .unset, .unset, .unset] [(.int (14 : Int32)), (.ref b7), (.ref b7)])) _
    refine XS.bipush X49.here hx rfl (hb hby at_298) ?_
    show Steps p.tables e below (T49.setTop (mkF m 300 #[.val (.int vlay), .val (.int vend), .val (.int vsc), .val (.long vbits), .second, .val (.int zz), .val (.int az), .val (.int pp), .val (.int ff), .val (.int (Int32.ofNat ne)), .unset, .unset, .unset, .unset, .unset, .unset, .unset] [(.int (14 : Int32)), (.int (14 : Int32)), (.ref b7), (.ref b7)])) _
    refine XS.iload X49.here hx rfl (hb hby at_300) rfl ?_
    show Steps p.tables e below (T49.setTop (mkF m 302 #[.val (.int vlay), .val (.int vend), .val (.int vsc), .val (.long vbits), .second, .val (.int zz), .val (.int az), .val (.int pp), .val (.int ff), .val (.int (Int32.ofNat ne)), .unset, .unset, .unset, .unset, .unset, .unset, .unset] [(.int pp), (.int (14 : Int32)), (.int (14 : Int32)), (.ref b7), (.ref b7)])) _
    refine XS.iload X49.here hx rfl (hb hby at_302) rfl ?_
    show Steps p.tables e below (T49.setTop (mkF m 304 #[.val (.int vlay), .val (.int vend), .val (.int vsc), .val (.long vbits), .second, .val (.int zz), .val (.int az), .val (.int pp), .val (.int ff), .val (.int (Int32.ofNat ne)), .unset, .unset, .unset, .unset, .unset, .unset, .unset] [(.int zz), (.int pp), (.int (14 : Int32)), (.int (14 : Int32)), (.ref b7), (.ref b7)])) _
    refine XS.iload X49.here hx rfl (hb hby at_304) rfl ?_
    show Steps p.tables e below (T49.setTop (mkF m 306 #[.val (.int vlay), .val (.int vend), .val (.int vsc), .val (.long vbits), .second, .val (.int zz), .val (.int az), .val (.int pp), .val (.int ff), .val (.int (Int32.ofNat ne)), .unset, .unset, .unset, .unset, .unset, .unset, .unset] [(.int az), (.int zz), (.int pp), (.int (14 : Int32)), (.int (14 : Int32)), (.ref b7), (.ref b7)])) _
    refine XS.iload X49.here hx rfl (hb hby at_306) rfl ?_
    show Steps p.tables e below (T49.setTop (mkF m 308 #[.val (.int vlay), .val (.int vend), .val (.int vsc), .val (.long vbits), .second, .val (.int zz), .val (.int az), .val (.int pp), .val (.int ff), .val (.int (Int32.ofNat ne)), .unset, .unset, .unset, .unset, .unset, .unset, .unset] [(.int ff), (.int az), (.int zz), (.int pp), (.int (14 : Int32)), (.int (14 : Int32)), (.ref b7), (.ref b7)])) _
    refine XS.lloadN X49.here hx rfl (hb hby at_308) rfl ?_
    show Steps p.tables e below (T49.setTop (mkF m 309 #[.val (.int vlay), .val (.int vend), .val (.int vsc), .val (.long vbits), .second, .val (.int zz), .val (.int az), .val (.int pp), .val (.int ff), .val (.int (Int32.ofNat ne)), .unset, .unset, .unset, .unset, .unset, .unset, .unset] [(.long vbits), (.int ff), (.int az), (.int zz), (.int pp), (.int (14 : Int32)), (.int (14 : Int32)), (.ref b7), (.ref b7)])) _
    refine st50 _ ?_
    show Steps p.tables e below (T50.setTop (mkF m 312 #[.val (.int vlay), .val (.int vend), .val (.int vsc), .val (.long vbits), .second, .val (.int zz), .val (.int az), .val (.int pp), .val (.int ff), .val (.int (Int32.ofNat ne)), .unset, .unset, .unset, .unset, .unset, .unset, .unset] [(.int (own_ch (14 : Int32) pp zz az ff vbits)), (.int (14 : Int32)), (.ref b7), (.ref b7)])) _
    refine st52 _ ?_
    show Steps p.tables e below (T52.setTop (mkF m 313 #[.val (.int vlay), .val (.int vend), .val (.int vsc), .val (.long vbits), .second, .val (.int zz), .val (.int az), .val (.int pp), .val (.int ff), .val (.int (Int32.ofNat ne)), .unset, .unset, .unset, .unset, .unset, .unset, .unset] [(.ref b7)])) _
    refine XS.dup X52.here hx rfl (hb hby at_313) rfl rfl ?_
    show Steps p.tables e below (T52.setTop (mkF m 314 #[.val (.int vlay), .val (.int vend), .val (.int vsc), .val (.long vbits), .second, .val (.int zz), .val (.int az), .val (.int pp), .val (.int ff), .val (.int (Int32.ofNat ne)), .unset, .unset, .unset, .unset, .unset, .unset, .unset] [(.ref b7), (.ref b7)])) _
    refine XS.bipush X52.here hx rfl (hb hby at_314) ?_
    show Steps p.tables e below (T52.setTop (mkF m 316 #[.val (.int vlay), .val (.int vend), .val (.int vsc), .val (.long vbits), .second, .val (.int zz), .val (.int az), .val (.int pp), .val (.int ff), .val (.int (Int32.ofNat ne)), .unset, .unset, .unset, .unset, .unset, .unset, .unset] [(.int (15 : Int32)), (.ref b7), (.ref b7)])) _
    refine XS.bipush X52.here hx rfl (hb hby at_316) ?_
    show Steps p.tables e below (T52.setTop (mkF m 318 #[.val (.int vlay), .val (.int vend), .val (.int vsc), .val (.long vbits), .second, .val (.int zz), .val (.int az), .val (.int pp), .val (.int ff), .val (.int (Int32.ofNat ne)), .unset, .unset, .unset, .unset, .unset, .unset, .unset] [(.int (15 : Int32)), (.int (15 : Int32)), (.ref b7), (.ref b7)])) _
    refine XS.iload X52.here hx rfl (hb hby at_318) rfl ?_
    show Steps p.tables e below (T52.setTop (mkF m 320 #[.val (.int vlay), .val (.int vend), .val (.int vsc), .val (.long vbits), .second, .val (.int zz), .val (.int az), .val (.int pp), .val (.int ff), .val (.int (Int32.ofNat ne)), .unset, .unset, .unset, .unset, .unset, .unset, .unset] [(.int pp), (.int (15 : Int32)), (.int (15 : Int32)), (.ref b7), (.ref b7)])) _
    refine XS.iload X52.here hx rfl (hb hby at_320) rfl ?_
    show Steps p.tables e below (T52.setTop (mkF m 322 #[.val (.int vlay), .val (.int vend), .val (.int vsc), .val (.long vbits), .second, .val (.int zz), .val (.int az), .val (.int pp), .val (.int ff), .val (.int (Int32.ofNat ne)), .unset, .unset, .unset, .unset, .unset, .unset, .unset] [(.int zz), (.int pp), (.int (15 : Int32)), (.int (15 : Int32)), (.ref b7), (.ref b7)])) _
    refine XS.iload X52.here hx rfl (hb hby at_322) rfl ?_
    show Steps p.tables e below (T52.setTop (mkF m 324 #[.val (.int vlay), .val (.int vend), .val (.int vsc), .val (.long vbits), .second, .val (.int zz), .val (.int az), .val (.int pp), .val (.int ff), .val (.int (Int32.ofNat ne)), .unset, .unset, .unset, .unset, .unset, .unset, .unset] [(.int az), (.int zz), (.int pp), (.int (15 : Int32)), (.int (15 : Int32)), (.ref b7), (.ref b7)])) _
    refine XS.iload X52.here hx rfl (hb hby at_324) rfl ?_
    show Steps p.tables e below (T52.setTop (mkF m 326 #[.val (.int vlay), .val (.int vend), .val (.int vsc), .val (.long vbits), .second, .val (.int zz), .val (.int az), .val (.int pp), .val (.int ff), .val (.int (Int32.ofNat ne)), .unset, .unset, .unset, .unset, .unset, .unset, .unset] [(.int ff), (.int az), (.int zz), (.int pp), (.int (15 : Int32)), (.int (15 : Int32)), (.ref b7), (.ref b7)])) _
    refine XS.lloadN X52.here hx rfl (hb hby at_326) rfl ?_
    show Steps p.tables e below (T52.setTop (mkF m 327 #[.val (.int vlay), .val (.int vend), .val (.int vsc), .val (.long vbits), .second, .val (.int zz), .val (.int az), .val (.int pp), .val (.int ff), .val (.int (Int32.ofNat ne)), .unset, .unset, .unset, .unset, .unset, .unset, .unset] [(.long vbits), (.int ff), (.int az), (.int zz), (.int pp), (.int (15 : Int32)), (.int (15 : Int32)), (.ref b7), (.ref b7)])) _
    refine st53 _ ?_
    show Steps p.tables e below (T53.setTop (mkF m 330 #[.val (.int vlay), .val (.int vend), .val (.int vsc), .val (.long vbits), .second, .val (.int zz), .val (.int az), .val (.int pp), .val (.int ff), .val (.int (Int32.ofNat ne)), .unset, .unset, .unset, .unset, .unset, .unset, .unset] [(.int (own_ch (15 : Int32) pp zz az ff vbits)), (.int (15 : Int32)), (.ref b7), (.ref b7)])) _
    refine st55 _ ?_
    show Steps p.tables e below (T55.setTop (mkF m 331 #[.val (.int vlay), .val (.int vend), .val (.int vsc), .val (.long vbits), .second, .val (.int zz), .val (.int az), .val (.int pp), .val (.int ff), .val (.int (Int32.ofNat ne)), .unset, .unset, .unset, .unset, .unset, .unset, .unset] [(.ref b7)])) _
    refine XS.dup X55.here hx rfl (hb hby at_331) rfl rfl ?_
    show Steps p.tables e below (T55.setTop (mkF m 332 #[.val (.int vlay), .val (.int vend), .val (.int vsc), .val (.long vbits), .second, .val (.int zz), .val (.int az), .val (.int pp), .val (.int ff), .val (.int (Int32.ofNat ne)), .unset, .unset, .unset, .unset, .unset, .unset, .unset] [(.ref b7), (.ref b7)])) _
    refine XS.bipush X55.here hx rfl (hb hby at_332) ?_
    show Steps p.tables e below (T55.setTop (mkF m 334 #[.val (.int vlay), .val (.int vend), .val (.int vsc), .val (.long vbits), .second, .val (.int zz), .val (.int az), .val (.int pp), .val (.int ff), .val (.int (Int32.ofNat ne)), .unset, .unset, .unset, .unset, .unset, .unset, .unset] [(.int (16 : Int32)), (.ref b7), (.ref b7)])) _
    refine XS.bipush X55.here hx rfl (hb hby at_334) ?_
    show Steps p.tables e below (T55.setTop (mkF m 336 #[.val (.int vlay), .val (.int vend), .val (.int vsc), .val (.long vbits), .second, .val (.int zz), .val (.int az), .val (.int pp), .val (.int ff), .val (.int (Int32.ofNat ne)), .unset, .unset, .unset, .unset, .unset, .unset, .unset] [(.int (16 : Int32)), (.int (16 : Int32)), (.ref b7), (.ref b7)])) _
    refine XS.iload X55.here hx rfl (hb hby at_336) rfl ?_
    show Steps p.tables e below (T55.setTop (mkF m 338 #[.val (.int vlay), .val (.int vend), .val (.int vsc), .val (.long vbits), .second, .val (.int zz), .val (.int az), .val (.int pp), .val (.int ff), .val (.int (Int32.ofNat ne)), .unset, .unset, .unset, .unset, .unset, .unset, .unset] [(.int pp), (.int (16 : Int32)), (.int (16 : Int32)), (.ref b7), (.ref b7)])) _
    refine XS.iload X55.here hx rfl (hb hby at_338) rfl ?_
    show Steps p.tables e below (T55.setTop (mkF m 340 #[.val (.int vlay), .val (.int vend), .val (.int vsc), .val (.long vbits), .second, .val (.int zz), .val (.int az), .val (.int pp), .val (.int ff), .val (.int (Int32.ofNat ne)), .unset, .unset, .unset, .unset, .unset, .unset, .unset] [(.int zz), (.int pp), (.int (16 : Int32)), (.int (16 : Int32)), (.ref b7), (.ref b7)])) _
    refine XS.iload X55.here hx rfl (hb hby at_340) rfl ?_
    show Steps p.tables e below (T55.setTop (mkF m 342 #[.val (.int vlay), .val (.int vend), .val (.int vsc), .val (.long vbits), .second, .val (.int zz), .val (.int az), .val (.int pp), .val (.int ff), .val (.int (Int32.ofNat ne)), .unset, .unset, .unset, .unset, .unset, .unset, .unset] [(.int az), (.int zz), (.int pp), (.int (16 : Int32)), (.int (16 : Int32)), (.ref b7), (.ref b7)])) _
    refine XS.iload X55.here hx rfl (hb hby at_342) rfl ?_
    show Steps p.tables e below (T55.setTop (mkF m 344 #[.val (.int vlay), .val (.int vend), .val (.int vsc), .val (.long vbits), .second, .val (.int zz), .val (.int az), .val (.int pp), .val (.int ff), .val (.int (Int32.ofNat ne)), .unset, .unset, .unset, .unset, .unset, .unset, .unset] [(.int ff), (.int az), (.int zz), (.int pp), (.int (16 : Int32)), (.int (16 : Int32)), (.ref b7), (.ref b7)])) _
    refine XS.lloadN X55.here hx rfl (hb hby at_344) rfl ?_
    show Steps p.tables e below (T55.setTop (mkF m 345 #[.val (.int vlay), .val (.int vend), .val (.int vsc), .val (.long vbits), .second, .val (.int zz), .val (.int az), .val (.int pp), .val (.int ff), .val (.int (Int32.ofNat ne)), .unset, .unset, .unset, .unset, .unset, .unset, .unset] [(.long vbits), (.int ff), (.int az), (.int zz), (.int pp), (.int (16 : Int32)), (.int (16 : Int32)), (.ref b7), (.ref b7)])) _
    refine st56 _ ?_
    show Steps p.tables e below (T56.setTop (mkF m 348 #[.val (.int vlay), .val (.int vend), .val (.int vsc), .val (.long vbits), .second, .val (.int zz), .val (.int az), .val (.int pp), .val (.int ff), .val (.int (Int32.ofNat ne)), .unset, .unset, .unset, .unset, .unset, .unset, .unset] [(.int (own_ch (16 : Int32) pp zz az ff vbits)), (.int (16 : Int32)), (.ref b7), (.ref b7)])) _
    refine st58 _ ?_
    show Steps p.tables e below (T58.setTop (mkF m 349 #[.val (.int vlay), .val (.int vend), .val (.int vsc), .val (.long vbits), .second, .val (.int zz), .val (.int az), .val (.int pp), .val (.int ff), .val (.int (Int32.ofNat ne)), .unset, .unset, .unset, .unset, .unset, .unset, .unset] [(.ref b7)])) _
    refine XS.dup X58.here hx rfl (hb hby at_349) rfl rfl ?_
    show Steps p.tables e below (T58.setTop (mkF m 350 #[.val (.int vlay), .val (.int vend), .val (.int vsc), .val (.long vbits), .second, .val (.int zz), .val (.int az), .val (.int pp), .val (.int ff), .val (.int (Int32.ofNat ne)), .unset, .unset, .unset, .unset, .unset, .unset, .unset] [(.ref b7), (.ref b7)])) _
    refine XS.bipush X58.here hx rfl (hb hby at_350) ?_
    show Steps p.tables e below (T58.setTop (mkF m 352 #[.val (.int vlay), .val (.int vend), .val (.int vsc), .val (.long vbits), .second, .val (.int zz), .val (.int az), .val (.int pp), .val (.int ff), .val (.int (Int32.ofNat ne)), .unset, .unset, .unset, .unset, .unset, .unset, .unset] [(.int (17 : Int32)), (.ref b7), (.ref b7)])) _
    refine XS.bipush X58.here hx rfl (hb hby at_352) ?_
    show Steps p.tables e below (T58.setTop (mkF m 354 #[.val (.int vlay), .val (.int vend), .val (.int vsc), .val (.long vbits), .second, .val (.int zz), .val (.int az), .val (.int pp), .val (.int ff), .val (.int (Int32.ofNat ne)), .unset, .unset, .unset, .unset, .unset, .unset, .unset] [(.int (17 : Int32)), (.int (17 : Int32)), (.ref b7), (.ref b7)])) _
    refine XS.iload X58.here hx rfl (hb hby at_354) rfl ?_
    show Steps p.tables e below (T58.setTop (mkF m 356 #[.val (.int vlay), .val (.int vend), .val (.int vsc), .val (.long vbits), .second, .val (.int zz), .val (.int az), .val (.int pp), .val (.int ff), .val (.int (Int32.ofNat ne)), .unset, .unset, .unset, .unset, .unset, .unset, .unset] [(.int pp), (.int (17 : Int32)), (.int (17 : Int32)), (.ref b7), (.ref b7)])) _
    refine XS.iload X58.here hx rfl (hb hby at_356) rfl ?_
    show Steps p.tables e below (T58.setTop (mkF m 358 #[.val (.int vlay), .val (.int vend), .val (.int vsc), .val (.long vbits), .second, .val (.int zz), .val (.int az), .val (.int pp), .val (.int ff), .val (.int (Int32.ofNat ne)), .unset, .unset, .unset, .unset, .unset, .unset, .unset] [(.int zz), (.int pp), (.int (17 : Int32)), (.int (17 : Int32)), (.ref b7), (.ref b7)])) _
    refine XS.iload X58.here hx rfl (hb hby at_358) rfl ?_
    show Steps p.tables e below (T58.setTop (mkF m 360 #[.val (.int vlay), .val (.int vend), .val (.int vsc), .val (.long vbits), .second, .val (.int zz), .val (.int az), .val (.int pp), .val (.int ff), .val (.int (Int32.ofNat ne)), .unset, .unset, .unset, .unset, .unset, .unset, .unset] [(.int az), (.int zz), (.int pp), (.int (17 : Int32)), (.int (17 : Int32)), (.ref b7), (.ref b7)])) _
    refine XS.iload X58.here hx rfl (hb hby at_360) rfl ?_
    show Steps p.tables e below (T58.setTop (mkF m 362 #[.val (.int vlay), .val (.int vend), .val (.int vsc), .val (.long vbits), .second, .val (.int zz), .val (.int az), .val (.int pp), .val (.int ff), .val (.int (Int32.ofNat ne)), .unset, .unset, .unset, .unset, .unset, .unset, .unset] [(.int ff), (.int az), (.int zz), (.int pp), (.int (17 : Int32)), (.int (17 : Int32)), (.ref b7), (.ref b7)])) _
    refine XS.lloadN X58.here hx rfl (hb hby at_362) rfl ?_
    show Steps p.tables e below (T58.setTop (mkF m 363 #[.val (.int vlay), .val (.int vend), .val (.int vsc), .val (.long vbits), .second, .val (.int zz), .val (.int az), .val (.int pp), .val (.int ff), .val (.int (Int32.ofNat ne)), .unset, .unset, .unset, .unset, .unset, .unset, .unset] [(.long vbits), (.int ff), (.int az), (.int zz), (.int pp), (.int (17 : Int32)), (.int (17 : Int32)), (.ref b7), (.ref b7)])) _
    refine st59 _ ?_
    show Steps p.tables e below (T59.setTop (mkF m 366 #[.val (.int vlay), .val (.int vend), .val (.int vsc), .val (.long vbits), .second, .val (.int zz), .val (.int az), .val (.int pp), .val (.int ff), .val (.int (Int32.ofNat ne)), .unset, .unset, .unset, .unset, .unset, .unset, .unset] [(.int (own_ch (17 : Int32) pp zz az ff vbits)), (.int (17 : Int32)), (.ref b7), (.ref b7)])) _
    refine st61 _ ?_
    show Steps p.tables e below (T61.setTop (mkF m 367 #[.val (.int vlay), .val (.int vend), .val (.int vsc), .val (.long vbits), .second, .val (.int zz), .val (.int az), .val (.int pp), .val (.int ff), .val (.int (Int32.ofNat ne)), .unset, .unset, .unset, .unset, .unset, .unset, .unset] [(.ref b7)])) _
    refine XS.dup X61.here hx rfl (hb hby at_367) rfl rfl ?_
    show Steps p.tables e below (T61.setTop (mkF m 368 #[.val (.int vlay), .val (.int vend), .val (.int vsc), .val (.long vbits), .second, .val (.int zz), .val (.int az), .val (.int pp), .val (.int ff), .val (.int (Int32.ofNat ne)), .unset, .unset, .unset, .unset, .unset, .unset, .unset] [(.ref b7), (.ref b7)])) _
    refine XS.bipush X61.here hx rfl (hb hby at_368) ?_
    show Steps p.tables e below (T61.setTop (mkF m 370 #[.val (.int vlay), .val (.int vend), .val (.int vsc), .val (.long vbits), .second, .val (.int zz), .val (.int az), .val (.int pp), .val (.int ff), .val (.int (Int32.ofNat ne)), .unset, .unset, .unset, .unset, .unset, .unset, .unset] [(.int (18 : Int32)), (.ref b7), (.ref b7)])) _
    refine XS.bipush X61.here hx rfl (hb hby at_370) ?_
    show Steps p.tables e below (T61.setTop (mkF m 372 #[.val (.int vlay), .val (.int vend), .val (.int vsc), .val (.long vbits), .second, .val (.int zz), .val (.int az), .val (.int pp), .val (.int ff), .val (.int (Int32.ofNat ne)), .unset, .unset, .unset, .unset, .unset, .unset, .unset] [(.int (18 : Int32)), (.int (18 : Int32)), (.ref b7), (.ref b7)])) _
    refine XS.iload X61.here hx rfl (hb hby at_372) rfl ?_
    show Steps p.tables e below (T61.setTop (mkF m 374 #[.val (.int vlay), .val (.int vend), .val (.int vsc), .val (.long vbits), .second, .val (.int zz), .val (.int az), .val (.int pp), .val (.int ff), .val (.int (Int32.ofNat ne)), .unset, .unset, .unset, .unset, .unset, .unset, .unset] [(.int pp), (.int (18 : Int32)), (.int (18 : Int32)), (.ref b7), (.ref b7)])) _
    refine XS.iload X61.here hx rfl (hb hby at_374) rfl ?_
    show Steps p.tables e below (T61.setTop (mkF m 376 #[.val (.int vlay), .val (.int vend), .val (.int vsc), .val (.long vbits), .second, .val (.int zz), .val (.int az), .val (.int pp), .val (.int ff), .val (.int (Int32.ofNat ne)), .unset, .unset, .unset, .unset, .unset, .unset, .unset] [(.int zz), (.int pp), (.int (18 : Int32)), (.int (18 : Int32)), (.ref b7), (.ref b7)])) _
    refine XS.iload X61.here hx rfl (hb hby at_376) rfl ?_
    show Steps p.tables e below (T61.setTop (mkF m 378 #[.val (.int vlay), .val (.int vend), .val (.int vsc), .val (.long vbits), .second, .val (.int zz), .val (.int az), .val (.int pp), .val (.int ff), .val (.int (Int32.ofNat ne)), .unset, .unset, .unset, .unset, .unset, .unset, .unset] [(.int az), (.int zz), (.int pp), (.int (18 : Int32)), (.int (18 : Int32)), (.ref b7), (.ref b7)])) _
    refine XS.iload X61.here hx rfl (hb hby at_378) rfl ?_
    show Steps p.tables e below (T61.setTop (mkF m 380 #[.val (.int vlay), .val (.int vend), .val (.int vsc), .val (.long vbits), .second, .val (.int zz), .val (.int az), .val (.int pp), .val (.int ff), .val (.int (Int32.ofNat ne)), .unset, .unset, .unset, .unset, .unset, .unset, .unset] [(.int ff), (.int az), (.int zz), (.int pp), (.int (18 : Int32)), (.int (18 : Int32)), (.ref b7), (.ref b7)])) _
    refine XS.lloadN X61.here hx rfl (hb hby at_380) rfl ?_
    show Steps p.tables e below (T61.setTop (mkF m 381 #[.val (.int vlay), .val (.int vend), .val (.int vsc), .val (.long vbits), .second, .val (.int zz), .val (.int az), .val (.int pp), .val (.int ff), .val (.int (Int32.ofNat ne)), .unset, .unset, .unset, .unset, .unset, .unset, .unset] [(.long vbits), (.int ff), (.int az), (.int zz), (.int pp), (.int (18 : Int32)), (.int (18 : Int32)), (.ref b7), (.ref b7)])) _
    refine st62 _ ?_
    show Steps p.tables e below (T62.setTop (mkF m 384 #[.val (.int vlay), .val (.int vend), .val (.int vsc), .val (.long vbits), .second, .val (.int zz), .val (.int az), .val (.int pp), .val (.int ff), .val (.int (Int32.ofNat ne)), .unset, .unset, .unset, .unset, .unset, .unset, .unset] [(.int (own_ch (18 : Int32) pp zz az ff vbits)), (.int (18 : Int32)), (.ref b7), (.ref b7)])) _
    refine st64 _ ?_
    show Steps p.tables e below (T64.setTop (mkF m 385 #[.val (.int vlay), .val (.int vend), .val (.int vsc), .val (.long vbits), .second, .val (.int zz), .val (.int az), .val (.int pp), .val (.int ff), .val (.int (Int32.ofNat ne)), .unset, .unset, .unset, .unset, .unset, .unset, .unset] [(.ref b7)])) _
    refine XS.dup X64.here hx rfl (hb hby at_385) rfl rfl ?_
    show Steps p.tables e below (T64.setTop (mkF m 386 #[.val (.int vlay), .val (.int vend), .val (.int vsc), .val (.long vbits), .second, .val (.int zz), .val (.int az), .val (.int pp), .val (.int ff), .val (.int (Int32.ofNat ne)), .unset, .unset, .unset, .unset, .unset, .unset, .unset] [(.ref b7), (.ref b7)])) _
    refine XS.bipush X64.here hx rfl (hb hby at_386) ?_
    show Steps p.tables e below (T64.setTop (mkF m 388 #[.val (.int vlay), .val (.int vend), .val (.int vsc), .val (.long vbits), .second, .val (.int zz), .val (.int az), .val (.int pp), .val (.int ff), .val (.int (Int32.ofNat ne)), .unset, .unset, .unset, .unset, .unset, .unset, .unset] [(.int (19 : Int32)), (.ref b7), (.ref b7)])) _
    refine XS.bipush X64.here hx rfl (hb hby at_388) ?_
    show Steps p.tables e below (T64.setTop (mkF m 390 #[.val (.int vlay), .val (.int vend), .val (.int vsc), .val (.long vbits), .second, .val (.int zz), .val (.int az), .val (.int pp), .val (.int ff), .val (.int (Int32.ofNat ne)), .unset, .unset, .unset, .unset, .unset, .unset, .unset] [(.int (19 : Int32)), (.int (19 : Int32)), (.ref b7), (.ref b7)])) _
    refine XS.iload X64.here hx rfl (hb hby at_390) rfl ?_
    show Steps p.tables e below (T64.setTop (mkF m 392 #[.val (.int vlay), .val (.int vend), .val (.int vsc), .val (.long vbits), .second, .val (.int zz), .val (.int az), .val (.int pp), .val (.int ff), .val (.int (Int32.ofNat ne)), .unset, .unset, .unset, .unset, .unset, .unset, .unset] [(.int pp), (.int (19 : Int32)), (.int (19 : Int32)), (.ref b7), (.ref b7)])) _
    refine XS.iload X64.here hx rfl (hb hby at_392) rfl ?_
    show Steps p.tables e below (T64.setTop (mkF m 394 #[.val (.int vlay), .val (.int vend), .val (.int vsc), .val (.long vbits), .second, .val (.int zz), .val (.int az), .val (.int pp), .val (.int ff), .val (.int (Int32.ofNat ne)), .unset, .unset, .unset, .unset, .unset, .unset, .unset] [(.int zz), (.int pp), (.int (19 : Int32)), (.int (19 : Int32)), (.ref b7), (.ref b7)])) _
    refine XS.iload X64.here hx rfl (hb hby at_394) rfl ?_
    show Steps p.tables e below (T64.setTop (mkF m 396 #[.val (.int vlay), .val (.int vend), .val (.int vsc), .val (.long vbits), .second, .val (.int zz), .val (.int az), .val (.int pp), .val (.int ff), .val (.int (Int32.ofNat ne)), .unset, .unset, .unset, .unset, .unset, .unset, .unset] [(.int az), (.int zz), (.int pp), (.int (19 : Int32)), (.int (19 : Int32)), (.ref b7), (.ref b7)])) _
    refine XS.iload X64.here hx rfl (hb hby at_396) rfl ?_
    show Steps p.tables e below (T64.setTop (mkF m 398 #[.val (.int vlay), .val (.int vend), .val (.int vsc), .val (.long vbits), .second, .val (.int zz), .val (.int az), .val (.int pp), .val (.int ff), .val (.int (Int32.ofNat ne)), .unset, .unset, .unset, .unset, .unset, .unset, .unset] [(.int ff), (.int az), (.int zz), (.int pp), (.int (19 : Int32)), (.int (19 : Int32)), (.ref b7), (.ref b7)])) _
    refine XS.lloadN X64.here hx rfl (hb hby at_398) rfl ?_
    show Steps p.tables e below (T64.setTop (mkF m 399 #[.val (.int vlay), .val (.int vend), .val (.int vsc), .val (.long vbits), .second, .val (.int zz), .val (.int az), .val (.int pp), .val (.int ff), .val (.int (Int32.ofNat ne)), .unset, .unset, .unset, .unset, .unset, .unset, .unset] [(.long vbits), (.int ff), (.int az), (.int zz), (.int pp), (.int (19 : Int32)), (.int (19 : Int32)), (.ref b7), (.ref b7)])) _
    refine st65 _ ?_
    show Steps p.tables e below (T65.setTop (mkF m 402 #[.val (.int vlay), .val (.int vend), .val (.int vsc), .val (.long vbits), .second, .val (.int zz), .val (.int az), .val (.int pp), .val (.int ff), .val (.int (Int32.ofNat ne)), .unset, .unset, .unset, .unset, .unset, .unset, .unset] [(.int (own_ch (19 : Int32) pp zz az ff vbits)), (.int (19 : Int32)), (.ref b7), (.ref b7)])) _
    refine st67 _ ?_
    show Steps p.tables e below (T67.setTop (mkF m 403 #[.val (.int vlay), .val (.int vend), .val (.int vsc), .val (.long vbits), .second, .val (.int zz), .val (.int az), .val (.int pp), .val (.int ff), .val (.int (Int32.ofNat ne)), .unset, .unset, .unset, .unset, .unset, .unset, .unset] [(.ref b7)])) _
    refine XS.dup X67.here hx rfl (hb hby at_403) rfl rfl ?_
    show Steps p.tables e below (T67.setTop (mkF m 404 #[.val (.int vlay), .val (.int vend), .val (.int vsc), .val (.long vbits), .second, .val (.int zz), .val (.int az), .val (.int pp), .val (.int ff), .val (.int (Int32.ofNat ne)), .unset, .unset, .unset, .unset, .unset, .unset, .unset] [(.ref b7), (.ref b7)])) _
    refine XS.bipush X67.here hx rfl (hb hby at_404) ?_
    show Steps p.tables e below (T67.setTop (mkF m 406 #[.val (.int vlay), .val (.int vend), .val (.int vsc), .val (.long vbits), .second, .val (.int zz), .val (.int az), .val (.int pp), .val (.int ff), .val (.int (Int32.ofNat ne)), .unset, .unset, .unset, .unset, .unset, .unset, .unset] [(.int (20 : Int32)), (.ref b7), (.ref b7)])) _
    refine XS.bipush X67.here hx rfl (hb hby at_406) ?_
    show Steps p.tables e below (T67.setTop (mkF m 408 #[.val (.int vlay), .val (.int vend), .val (.int vsc), .val (.long vbits), .second, .val (.int zz), .val (.int az), .val (.int pp), .val (.int ff), .val (.int (Int32.ofNat ne)), .unset, .unset, .unset, .unset, .unset, .unset, .unset] [(.int (20 : Int32)), (.int (20 : Int32)), (.ref b7), (.ref b7)])) _
    refine XS.iload X67.here hx rfl (hb hby at_408) rfl ?_
    show Steps p.tables e below (T67.setTop (mkF m 410 #[.val (.int vlay), .val (.int vend), .val (.int vsc), .val (.long vbits), .second, .val (.int zz), .val (.int az), .val (.int pp), .val (.int ff), .val (.int (Int32.ofNat ne)), .unset, .unset, .unset, .unset, .unset, .unset, .unset] [(.int pp), (.int (20 : Int32)), (.int (20 : Int32)), (.ref b7), (.ref b7)])) _
    refine XS.iload X67.here hx rfl (hb hby at_410) rfl ?_
    show Steps p.tables e below (T67.setTop (mkF m 412 #[.val (.int vlay), .val (.int vend), .val (.int vsc), .val (.long vbits), .second, .val (.int zz), .val (.int az), .val (.int pp), .val (.int ff), .val (.int (Int32.ofNat ne)), .unset, .unset, .unset, .unset, .unset, .unset, .unset] [(.int zz), (.int pp), (.int (20 : Int32)), (.int (20 : Int32)), (.ref b7), (.ref b7)])) _
    refine XS.iload X67.here hx rfl (hb hby at_412) rfl ?_
    show Steps p.tables e below (T67.setTop (mkF m 414 #[.val (.int vlay), .val (.int vend), .val (.int vsc), .val (.long vbits), .second, .val (.int zz), .val (.int az), .val (.int pp), .val (.int ff), .val (.int (Int32.ofNat ne)), .unset, .unset, .unset, .unset, .unset, .unset, .unset] [(.int az), (.int zz), (.int pp), (.int (20 : Int32)), (.int (20 : Int32)), (.ref b7), (.ref b7)])) _
    refine XS.iload X67.here hx rfl (hb hby at_414) rfl ?_
    show Steps p.tables e below (T67.setTop (mkF m 416 #[.val (.int vlay), .val (.int vend), .val (.int vsc), .val (.long vbits), .second, .val (.int zz), .val (.int az), .val (.int pp), .val (.int ff), .val (.int (Int32.ofNat ne)), .unset, .unset, .unset, .unset, .unset, .unset, .unset] [(.int ff), (.int az), (.int zz), (.int pp), (.int (20 : Int32)), (.int (20 : Int32)), (.ref b7), (.ref b7)])) _
    refine XS.lloadN X67.here hx rfl (hb hby at_416) rfl ?_
    show Steps p.tables e below (T67.setTop (mkF m 417 #[.val (.int vlay), .val (.int vend), .val (.int vsc), .val (.long vbits), .second, .val (.int zz), .val (.int az), .val (.int pp), .val (.int ff), .val (.int (Int32.ofNat ne)), .unset, .unset, .unset, .unset, .unset, .unset, .unset] [(.long vbits), (.int ff), (.int az), (.int zz), (.int pp), (.int (20 : Int32)), (.int (20 : Int32)), (.ref b7), (.ref b7)])) _
    refine st68 _ ?_
    show Steps p.tables e below (T68.setTop (mkF m 420 #[.val (.int vlay), .val (.int vend), .val (.int vsc), .val (.long vbits), .second, .val (.int zz), .val (.int az), .val (.int pp), .val (.int ff), .val (.int (Int32.ofNat ne)), .unset, .unset, .unset, .unset, .unset, .unset, .unset] [(.int (own_ch (20 : Int32) pp zz az ff vbits)), (.int (20 : Int32)), (.ref b7), (.ref b7)])) _
    refine st70 _ ?_
    show Steps p.tables e below (T70.setTop (mkF m 421 #[.val (.int vlay), .val (.int vend), .val (.int vsc), .val (.long vbits), .second, .val (.int zz), .val (.int az), .val (.int pp), .val (.int ff), .val (.int (Int32.ofNat ne)), .unset, .unset, .unset, .unset, .unset, .unset, .unset] [(.ref b7)])) _
    refine XS.dup X70.here hx rfl (hb hby at_421) rfl rfl ?_
    show Steps p.tables e below (T70.setTop (mkF m 422 #[.val (.int vlay), .val (.int vend), .val (.int vsc), .val (.long vbits), .second, .val (.int zz), .val (.int az), .val (.int pp), .val (.int ff), .val (.int (Int32.ofNat ne)), .unset, .unset, .unset, .unset, .unset, .unset, .unset] [(.ref b7), (.ref b7)])) _
    refine XS.bipush X70.here hx rfl (hb hby at_422) ?_
    show Steps p.tables e below (T70.setTop (mkF m 424 #[.val (.int vlay), .val (.int vend), .val (.int vsc), .val (.long vbits), .second, .val (.int zz), .val (.int az), .val (.int pp), .val (.int ff), .val (.int (Int32.ofNat ne)), .unset, .unset, .unset, .unset, .unset, .unset, .unset] [(.int (21 : Int32)), (.ref b7), (.ref b7)])) _
    refine XS.bipush X70.here hx rfl (hb hby at_424) ?_
    show Steps p.tables e below (T70.setTop (mkF m 426 #[.val (.int vlay), .val (.int vend), .val (.int vsc), .val (.long vbits), .second, .val (.int zz), .val (.int az), .val (.int pp), .val (.int ff), .val (.int (Int32.ofNat ne)), .unset, .unset, .unset, .unset, .unset, .unset, .unset] [(.int (21 : Int32)), (.int (21 : Int32)), (.ref b7), (.ref b7)])) _
    refine XS.iload X70.here hx rfl (hb hby at_426) rfl ?_
    show Steps p.tables e below (T70.setTop (mkF m 428 #[.val (.int vlay), .val (.int vend), .val (.int vsc), .val (.long vbits), .second, .val (.int zz), .val (.int az), .val (.int pp), .val (.int ff), .val (.int (Int32.ofNat ne)), .unset, .unset, .unset, .unset, .unset, .unset, .unset] [(.int pp), (.int (21 : Int32)), (.int (21 : Int32)), (.ref b7), (.ref b7)])) _
    refine XS.iload X70.here hx rfl (hb hby at_428) rfl ?_
    show Steps p.tables e below (T70.setTop (mkF m 430 #[.val (.int vlay), .val (.int vend), .val (.int vsc), .val (.long vbits), .second, .val (.int zz), .val (.int az), .val (.int pp), .val (.int ff), .val (.int (Int32.ofNat ne)), .unset, .unset, .unset, .unset, .unset, .unset, .unset] [(.int zz), (.int pp), (.int (21 : Int32)), (.int (21 : Int32)), (.ref b7), (.ref b7)])) _
    refine XS.iload X70.here hx rfl (hb hby at_430) rfl ?_
    show Steps p.tables e below (T70.setTop (mkF m 432 #[.val (.int vlay), .val (.int vend), .val (.int vsc), .val (.long vbits), .second, .val (.int zz), .val (.int az), .val (.int pp), .val (.int ff), .val (.int (Int32.ofNat ne)), .unset, .unset, .unset, .unset, .unset, .unset, .unset] [(.int az), (.int zz), (.int pp), (.int (21 : Int32)), (.int (21 : Int32)), (.ref b7), (.ref b7)])) _
    refine XS.iload X70.here hx rfl (hb hby at_432) rfl ?_
    show Steps p.tables e below (T70.setTop (mkF m 434 #[.val (.int vlay), .val (.int vend), .val (.int vsc), .val (.long vbits), .second, .val (.int zz), .val (.int az), .val (.int pp), .val (.int ff), .val (.int (Int32.ofNat ne)), .unset, .unset, .unset, .unset, .unset, .unset, .unset] [(.int ff), (.int az), (.int zz), (.int pp), (.int (21 : Int32)), (.int (21 : Int32)), (.ref b7), (.ref b7)])) _
    refine XS.lloadN X70.here hx rfl (hb hby at_434) rfl ?_
    show Steps p.tables e below (T70.setTop (mkF m 435 #[.val (.int vlay), .val (.int vend), .val (.int vsc), .val (.long vbits), .second, .val (.int zz), .val (.int az), .val (.int pp), .val (.int ff), .val (.int (Int32.ofNat ne)), .unset, .unset, .unset, .unset, .unset, .unset, .unset] [(.long vbits), (.int ff), (.int az), (.int zz), (.int pp), (.int (21 : Int32)), (.int (21 : Int32)), (.ref b7), (.ref b7)])) _
    refine st71 _ ?_
    show Steps p.tables e below (T71.setTop (mkF m 438 #[.val (.int vlay), .val (.int vend), .val (.int vsc), .val (.long vbits), .second, .val (.int zz), .val (.int az), .val (.int pp), .val (.int ff), .val (.int (Int32.ofNat ne)), .unset, .unset, .unset, .unset, .unset, .unset, .unset] [(.int (own_ch (21 : Int32) pp zz az ff vbits)), (.int (21 : Int32)), (.ref b7), (.ref b7)])) _
    refine st73 _ ?_
    show Steps p.tables e below (T73.setTop (mkF m 439 #[.val (.int vlay), .val (.int vend), .val (.int vsc), .val (.long vbits), .second, .val (.int zz), .val (.int az), .val (.int pp), .val (.int ff), .val (.int (Int32.ofNat ne)), .unset, .unset, .unset, .unset, .unset, .unset, .unset] [(.ref b7)])) _
    refine XS.dup X73.here hx rfl (hb hby at_439) rfl rfl ?_
    show Steps p.tables e below (T73.setTop (mkF m 440 #[.val (.int vlay), .val (.int vend), .val (.int vsc), .val (.long vbits), .second, .val (.int zz), .val (.int az), .val (.int pp), .val (.int ff), .val (.int (Int32.ofNat ne)), .unset, .unset, .unset, .unset, .unset, .unset, .unset] [(.ref b7), (.ref b7)])) _
    refine XS.bipush X73.here hx rfl (hb hby at_440) ?_
    show Steps p.tables e below (T73.setTop (mkF m 442 #[.val (.int vlay), .val (.int vend), .val (.int vsc), .val (.long vbits), .second, .val (.int zz), .val (.int az), .val (.int pp), .val (.int ff), .val (.int (Int32.ofNat ne)), .unset, .unset, .unset, .unset, .unset, .unset, .unset] [(.int (22 : Int32)), (.ref b7), (.ref b7)])) _
    refine XS.bipush X73.here hx rfl (hb hby at_442) ?_
    show Steps p.tables e below (T73.setTop (mkF m 444 #[.val (.int vlay), .val (.int vend), .val (.int vsc), .val (.long vbits), .second, .val (.int zz), .val (.int az), .val (.int pp), .val (.int ff), .val (.int (Int32.ofNat ne)), .unset, .unset, .unset, .unset, .unset, .unset, .unset] [(.int (22 : Int32)), (.int (22 : Int32)), (.ref b7), (.ref b7)])) _
    refine XS.iload X73.here hx rfl (hb hby at_444) rfl ?_
    show Steps p.tables e below (T73.setTop (mkF m 446 #[.val (.int vlay), .val (.int vend), .val (.int vsc), .val (.long vbits), .second, .val (.int zz), .val (.int az), .val (.int pp), .val (.int ff), .val (.int (Int32.ofNat ne)), .unset, .unset, .unset, .unset, .unset, .unset, .unset] [(.int pp), (.int (22 : Int32)), (.int (22 : Int32)), (.ref b7), (.ref b7)])) _
    refine XS.iload X73.here hx rfl (hb hby at_446) rfl ?_
    show Steps p.tables e below (T73.setTop (mkF m 448 #[.val (.int vlay), .val (.int vend), .val (.int vsc), .val (.long vbits), .second, .val (.int zz), .val (.int az), .val (.int pp), .val (.int ff), .val (.int (Int32.ofNat ne)), .unset, .unset, .unset, .unset, .unset, .unset, .unset] [(.int zz), (.int pp), (.int (22 : Int32)), (.int (22 : Int32)), (.ref b7), (.ref b7)])) _
    refine XS.iload X73.here hx rfl (hb hby at_448) rfl ?_
    show Steps p.tables e below (T73.setTop (mkF m 450 #[.val (.int vlay), .val (.int vend), .val (.int vsc), .val (.long vbits), .second, .val (.int zz), .val (.int az), .val (.int pp), .val (.int ff), .val (.int (Int32.ofNat ne)), .unset, .unset, .unset, .unset, .unset, .unset, .unset] [(.int az), (.int zz), (.int pp), (.int (22 : Int32)), (.int (22 : Int32)), (.ref b7), (.ref b7)])) _
    refine XS.iload X73.here hx rfl (hb hby at_450) rfl ?_
    show Steps p.tables e below (T73.setTop (mkF m 452 #[.val (.int vlay), .val (.int vend), .val (.int vsc), .val (.long vbits), .second, .val (.int zz), .val (.int az), .val (.int pp), .val (.int ff), .val (.int (Int32.ofNat ne)), .unset, .unset, .unset, .unset, .unset, .unset, .unset] [(.int ff), (.int az), (.int zz), (.int pp), (.int (22 : Int32)), (.int (22 : Int32)), (.ref b7), (.ref b7)])) _
    refine XS.lloadN X73.here hx rfl (hb hby at_452) rfl ?_
    show Steps p.tables e below (T73.setTop (mkF m 453 #[.val (.int vlay), .val (.int vend), .val (.int vsc), .val (.long vbits), .second, .val (.int zz), .val (.int az), .val (.int pp), .val (.int ff), .val (.int (Int32.ofNat ne)), .unset, .unset, .unset, .unset, .unset, .unset, .unset] [(.long vbits), (.int ff), (.int az), (.int zz), (.int pp), (.int (22 : Int32)), (.int (22 : Int32)), (.ref b7), (.ref b7)])) _
    refine st74 _ ?_
    show Steps p.tables e below (T74.setTop (mkF m 456 #[.val (.int vlay), .val (.int vend), .val (.int vsc), .val (.long vbits), .second, .val (.int zz), .val (.int az), .val (.int pp), .val (.int ff), .val (.int (Int32.ofNat ne)), .unset, .unset, .unset, .unset, .unset, .unset, .unset] [(.int (own_ch (22 : Int32) pp zz az ff vbits)), (.int (22 : Int32)), (.ref b7), (.ref b7)])) _
    refine st76 _ ?_
    show Steps p.tables e below (T76.setTop (mkF m 457 #[.val (.int vlay), .val (.int vend), .val (.int vsc), .val (.long vbits), .second, .val (.int zz), .val (.int az), .val (.int pp), .val (.int ff), .val (.int (Int32.ofNat ne)), .unset, .unset, .unset, .unset, .unset, .unset, .unset] [(.ref b7)])) _
    refine XS.dup X76.here hx rfl (hb hby at_457) rfl rfl ?_
    show Steps p.tables e below (T76.setTop (mkF m 458 #[.val (.int vlay), .val (.int vend), .val (.int vsc), .val (.long vbits), .second, .val (.int zz), .val (.int az), .val (.int pp), .val (.int ff), .val (.int (Int32.ofNat ne)), .unset, .unset, .unset, .unset, .unset, .unset, .unset] [(.ref b7), (.ref b7)])) _
    refine XS.bipush X76.here hx rfl (hb hby at_458) ?_
    show Steps p.tables e below (T76.setTop (mkF m 460 #[.val (.int vlay), .val (.int vend), .val (.int vsc), .val (.long vbits), .second, .val (.int zz), .val (.int az), .val (.int pp), .val (.int ff), .val (.int (Int32.ofNat ne)), .unset, .unset, .unset, .unset, .unset, .unset, .unset] [(.int (23 : Int32)), (.ref b7), (.ref b7)])) _
    refine XS.bipush X76.here hx rfl (hb hby at_460) ?_
    show Steps p.tables e below (T76.setTop (mkF m 462 #[.val (.int vlay), .val (.int vend), .val (.int vsc), .val (.long vbits), .second, .val (.int zz), .val (.int az), .val (.int pp), .val (.int ff), .val (.int (Int32.ofNat ne)), .unset, .unset, .unset, .unset, .unset, .unset, .unset] [(.int (23 : Int32)), (.int (23 : Int32)), (.ref b7), (.ref b7)])) _
    refine XS.iload X76.here hx rfl (hb hby at_462) rfl ?_
    show Steps p.tables e below (T76.setTop (mkF m 464 #[.val (.int vlay), .val (.int vend), .val (.int vsc), .val (.long vbits), .second, .val (.int zz), .val (.int az), .val (.int pp), .val (.int ff), .val (.int (Int32.ofNat ne)), .unset, .unset, .unset, .unset, .unset, .unset, .unset] [(.int pp), (.int (23 : Int32)), (.int (23 : Int32)), (.ref b7), (.ref b7)])) _
    refine XS.iload X76.here hx rfl (hb hby at_464) rfl ?_
    show Steps p.tables e below (T76.setTop (mkF m 466 #[.val (.int vlay), .val (.int vend), .val (.int vsc), .val (.long vbits), .second, .val (.int zz), .val (.int az), .val (.int pp), .val (.int ff), .val (.int (Int32.ofNat ne)), .unset, .unset, .unset, .unset, .unset, .unset, .unset] [(.int zz), (.int pp), (.int (23 : Int32)), (.int (23 : Int32)), (.ref b7), (.ref b7)])) _
    refine XS.iload X76.here hx rfl (hb hby at_466) rfl ?_
    show Steps p.tables e below (T76.setTop (mkF m 468 #[.val (.int vlay), .val (.int vend), .val (.int vsc), .val (.long vbits), .second, .val (.int zz), .val (.int az), .val (.int pp), .val (.int ff), .val (.int (Int32.ofNat ne)), .unset, .unset, .unset, .unset, .unset, .unset, .unset] [(.int az), (.int zz), (.int pp), (.int (23 : Int32)), (.int (23 : Int32)), (.ref b7), (.ref b7)])) _
    refine XS.iload X76.here hx rfl (hb hby at_468) rfl ?_
    show Steps p.tables e below (T76.setTop (mkF m 470 #[.val (.int vlay), .val (.int vend), .val (.int vsc), .val (.long vbits), .second, .val (.int zz), .val (.int az), .val (.int pp), .val (.int ff), .val (.int (Int32.ofNat ne)), .unset, .unset, .unset, .unset, .unset, .unset, .unset] [(.int ff), (.int az), (.int zz), (.int pp), (.int (23 : Int32)), (.int (23 : Int32)), (.ref b7), (.ref b7)])) _
    refine XS.lloadN X76.here hx rfl (hb hby at_470) rfl ?_
    show Steps p.tables e below (T76.setTop (mkF m 471 #[.val (.int vlay), .val (.int vend), .val (.int vsc), .val (.long vbits), .second, .val (.int zz), .val (.int az), .val (.int pp), .val (.int ff), .val (.int (Int32.ofNat ne)), .unset, .unset, .unset, .unset, .unset, .unset, .unset] [(.long vbits), (.int ff), (.int az), (.int zz), (.int pp), (.int (23 : Int32)), (.int (23 : Int32)), (.ref b7), (.ref b7)])) _
    refine st77 _ ?_
    show Steps p.tables e below (T77.setTop (mkF m 474 #[.val (.int vlay), .val (.int vend), .val (.int vsc), .val (.long vbits), .second, .val (.int zz), .val (.int az), .val (.int pp), .val (.int ff), .val (.int (Int32.ofNat ne)), .unset, .unset, .unset, .unset, .unset, .unset, .unset] [(.int (own_ch (23 : Int32) pp zz az ff vbits)), (.int (23 : Int32)), (.ref b7), (.ref b7)])) _
    refine st79 _ ?_
    show Steps p.tables e below (T79.setTop (mkF m 475 #[.val (.int vlay), .val (.int vend), .val (.int vsc), .val (.long vbits), .second, .val (.int zz), .val (.int az), .val (.int pp), .val (.int ff), .val (.int (Int32.ofNat ne)), .unset, .unset, .unset, .unset, .unset, .unset, .unset] [(.ref b7)])) _
    refine XS.dup X79.here hx rfl (hb hby at_475) rfl rfl ?_
    show Steps p.tables e below (T79.setTop (mkF m 476 #[.val (.int vlay), .val (.int vend), .val (.int vsc), .val (.long vbits), .second, .val (.int zz), .val (.int az), .val (.int pp), .val (.int ff), .val (.int (Int32.ofNat ne)), .unset, .unset, .unset, .unset, .unset, .unset, .unset] [(.ref b7), (.ref b7)])) _
    refine XS.bipush X79.here hx rfl (hb hby at_476) ?_
    show Steps p.tables e below (T79.setTop (mkF m 478 #[.val (.int vlay), .val (.int vend), .val (.int vsc), .val (.long vbits), .second, .val (.int zz), .val (.int az), .val (.int pp), .val (.int ff), .val (.int (Int32.ofNat ne)), .unset, .unset, .unset, .unset, .unset, .unset, .unset] [(.int (24 : Int32)), (.ref b7), (.ref b7)])) _
    refine XS.bipush X79.here hx rfl (hb hby at_478) ?_
    show Steps p.tables e below (T79.setTop (mkF m 480 #[.val (.int vlay), .val (.int vend), .val (.int vsc), .val (.long vbits), .second, .val (.int zz), .val (.int az), .val (.int pp), .val (.int ff), .val (.int (Int32.ofNat ne)), .unset, .unset, .unset, .unset, .unset, .unset, .unset] [(.int (24 : Int32)), (.int (24 : Int32)), (.ref b7), (.ref b7)])) _
    refine XS.iload X79.here hx rfl (hb hby at_480) rfl ?_
    show Steps p.tables e below (T79.setTop (mkF m 482 #[.val (.int vlay), .val (.int vend), .val (.int vsc), .val (.long vbits), .second, .val (.int zz), .val (.int az), .val (.int pp), .val (.int ff), .val (.int (Int32.ofNat ne)), .unset, .unset, .unset, .unset, .unset, .unset, .unset] [(.int pp), (.int (24 : Int32)), (.int (24 : Int32)), (.ref b7), (.ref b7)])) _
    refine XS.iload X79.here hx rfl (hb hby at_482) rfl ?_
    show Steps p.tables e below (T79.setTop (mkF m 484 #[.val (.int vlay), .val (.int vend), .val (.int vsc), .val (.long vbits), .second, .val (.int zz), .val (.int az), .val (.int pp), .val (.int ff), .val (.int (Int32.ofNat ne)), .unset, .unset, .unset, .unset, .unset, .unset, .unset] [(.int zz), (.int pp), (.int (24 : Int32)), (.int (24 : Int32)), (.ref b7), (.ref b7)])) _
    refine XS.iload X79.here hx rfl (hb hby at_484) rfl ?_
    show Steps p.tables e below (T79.setTop (mkF m 486 #[.val (.int vlay), .val (.int vend), .val (.int vsc), .val (.long vbits), .second, .val (.int zz), .val (.int az), .val (.int pp), .val (.int ff), .val (.int (Int32.ofNat ne)), .unset, .unset, .unset, .unset, .unset, .unset, .unset] [(.int az), (.int zz), (.int pp), (.int (24 : Int32)), (.int (24 : Int32)), (.ref b7), (.ref b7)])) _
    refine XS.iload X79.here hx rfl (hb hby at_486) rfl ?_
    show Steps p.tables e below (T79.setTop (mkF m 488 #[.val (.int vlay), .val (.int vend), .val (.int vsc), .val (.long vbits), .second, .val (.int zz), .val (.int az), .val (.int pp), .val (.int ff), .val (.int (Int32.ofNat ne)), .unset, .unset, .unset, .unset, .unset, .unset, .unset] [(.int ff), (.int az), (.int zz), (.int pp), (.int (24 : Int32)), (.int (24 : Int32)), (.ref b7), (.ref b7)])) _
    refine XS.lloadN X79.here hx rfl (hb hby at_488) rfl ?_
    show Steps p.tables e below (T79.setTop (mkF m 489 #[.val (.int vlay), .val (.int vend), .val (.int vsc), .val (.long vbits), .second, .val (.int zz), .val (.int az), .val (.int pp), .val (.int ff), .val (.int (Int32.ofNat ne)), .unset, .unset, .unset, .unset, .unset, .unset, .unset] [(.long vbits), (.int ff), (.int az), (.int zz), (.int pp), (.int (24 : Int32)), (.int (24 : Int32)), (.ref b7), (.ref b7)])) _
    refine st80 _ ?_
    show Steps p.tables e below (T80.setTop (mkF m 492 #[.val (.int vlay), .val (.int vend), .val (.int vsc), .val (.long vbits), .second, .val (.int zz), .val (.int az), .val (.int pp), .val (.int ff), .val (.int (Int32.ofNat ne)), .unset, .unset, .unset, .unset, .unset, .unset, .unset] [(.int (own_ch (24 : Int32) pp zz az ff vbits)), (.int (24 : Int32)), (.ref b7), (.ref b7)])) _
    refine st82 _ ?_
    show Steps p.tables e below (T82.setTop (mkF m 493 #[.val (.int vlay), .val (.int vend), .val (.int vsc), .val (.long vbits), .second, .val (.int zz), .val (.int az), .val (.int pp), .val (.int ff), .val (.int (Int32.ofNat ne)), .unset, .unset, .unset, .unset, .unset, .unset, .unset] [(.ref b7)])) _
    refine XS.dup X82.here hx rfl (hb hby at_493) rfl rfl ?_
    show Steps p.tables e below (T82.setTop (mkF m 494 #[.val (.int vlay), .val (.int vend), .val (.int vsc), .val (.long vbits), .second, .val (.int zz), .val (.int az), .val (.int pp), .val (.int ff), .val (.int (Int32.ofNat ne)), .unset, .unset, .unset, .unset, .unset, .unset, .unset] [(.ref b7), (.ref b7)])) _
    refine XS.bipush X82.here hx rfl (hb hby at_494) ?_
    show Steps p.tables e below (T82.setTop (mkF m 496 #[.val (.int vlay), .val (.int vend), .val (.int vsc), .val (.long vbits), .second, .val (.int zz), .val (.int az), .val (.int pp), .val (.int ff), .val (.int (Int32.ofNat ne)), .unset, .unset, .unset, .unset, .unset, .unset, .unset] [(.int (25 : Int32)), (.ref b7), (.ref b7)])) _
    refine XS.bipush X82.here hx rfl (hb hby at_496) ?_
    show Steps p.tables e below (T82.setTop (mkF m 498 #[.val (.int vlay), .val (.int vend), .val (.int vsc), .val (.long vbits), .second, .val (.int zz), .val (.int az), .val (.int pp), .val (.int ff), .val (.int (Int32.ofNat ne)), .unset, .unset, .unset, .unset, .unset, .unset, .unset] [(.int (25 : Int32)), (.int (25 : Int32)), (.ref b7), (.ref b7)])) _
    refine XS.iload X82.here hx rfl (hb hby at_498) rfl ?_
    show Steps p.tables e below (T82.setTop (mkF m 500 #[.val (.int vlay), .val (.int vend), .val (.int vsc), .val (.long vbits), .second, .val (.int zz), .val (.int az), .val (.int pp), .val (.int ff), .val (.int (Int32.ofNat ne)), .unset, .unset, .unset, .unset, .unset, .unset, .unset] [(.int pp), (.int (25 : Int32)), (.int (25 : Int32)), (.ref b7), (.ref b7)])) _
    refine XS.iload X82.here hx rfl (hb hby at_500) rfl ?_
    show Steps p.tables e below (T82.setTop (mkF m 502 #[.val (.int vlay), .val (.int vend), .val (.int vsc), .val (.long vbits), .second, .val (.int zz), .val (.int az), .val (.int pp), .val (.int ff), .val (.int (Int32.ofNat ne)), .unset, .unset, .unset, .unset, .unset, .unset, .unset] [(.int zz), (.int pp), (.int (25 : Int32)), (.int (25 : Int32)), (.ref b7), (.ref b7)])) _
    refine XS.iload X82.here hx rfl (hb hby at_502) rfl ?_
    show Steps p.tables e below (T82.setTop (mkF m 504 #[.val (.int vlay), .val (.int vend), .val (.int vsc), .val (.long vbits), .second, .val (.int zz), .val (.int az), .val (.int pp), .val (.int ff), .val (.int (Int32.ofNat ne)), .unset, .unset, .unset, .unset, .unset, .unset, .unset] [(.int az), (.int zz), (.int pp), (.int (25 : Int32)), (.int (25 : Int32)), (.ref b7), (.ref b7)])) _
    refine XS.iload X82.here hx rfl (hb hby at_504) rfl ?_
    show Steps p.tables e below (T82.setTop (mkF m 506 #[.val (.int vlay), .val (.int vend), .val (.int vsc), .val (.long vbits), .second, .val (.int zz), .val (.int az), .val (.int pp), .val (.int ff), .val (.int (Int32.ofNat ne)), .unset, .unset, .unset, .unset, .unset, .unset, .unset] [(.int ff), (.int az), (.int zz), (.int pp), (.int (25 : Int32)), (.int (25 : Int32)), (.ref b7), (.ref b7)])) _
    refine XS.lloadN X82.here hx rfl (hb hby at_506) rfl ?_
    show Steps p.tables e below (T82.setTop (mkF m 507 #[.val (.int vlay), .val (.int vend), .val (.int vsc), .val (.long vbits), .second, .val (.int zz), .val (.int az), .val (.int pp), .val (.int ff), .val (.int (Int32.ofNat ne)), .unset, .unset, .unset, .unset, .unset, .unset, .unset] [(.long vbits), (.int ff), (.int az), (.int zz), (.int pp), (.int (25 : Int32)), (.int (25 : Int32)), (.ref b7), (.ref b7)])) _
    refine st83 _ ?_
    show Steps p.tables e below (T83.setTop (mkF m 510 #[.val (.int vlay), .val (.int vend), .val (.int vsc), .val (.long vbits), .second, .val (.int zz), .val (.int az), .val (.int pp), .val (.int ff), .val (.int (Int32.ofNat ne)), .unset, .unset, .unset, .unset, .unset, .unset, .unset] [(.int (own_ch (25 : Int32) pp zz az ff vbits)), (.int (25 : Int32)), (.ref b7), (.ref b7)])) _
    refine st85 _ ?_
    show Steps p.tables e below (T85.setTop (mkF m 511 #[.val (.int vlay), .val (.int vend), .val (.int vsc), .val (.long vbits), .second, .val (.int zz), .val (.int az), .val (.int pp), .val (.int ff), .val (.int (Int32.ofNat ne)), .unset, .unset, .unset, .unset, .unset, .unset, .unset] [(.ref b7)])) _
    refine XS.dup X85.here hx rfl (hb hby at_511) rfl rfl ?_
    show Steps p.tables e below (T85.setTop (mkF m 512 #[.val (.int vlay), .val (.int vend), .val (.int vsc), .val (.long vbits), .second, .val (.int zz), .val (.int az), .val (.int pp), .val (.int ff), .val (.int (Int32.ofNat ne)), .unset, .unset, .unset, .unset, .unset, .unset, .unset] [(.ref b7), (.ref b7)])) _
    refine XS.bipush X85.here hx rfl (hb hby at_512) ?_
    show Steps p.tables e below (T85.setTop (mkF m 514 #[.val (.int vlay), .val (.int vend), .val (.int vsc), .val (.long vbits), .second, .val (.int zz), .val (.int az), .val (.int pp), .val (.int ff), .val (.int (Int32.ofNat ne)), .unset, .unset, .unset, .unset, .unset, .unset, .unset] [(.int (26 : Int32)), (.ref b7), (.ref b7)])) _
    refine XS.bipush X85.here hx rfl (hb hby at_514) ?_
    show Steps p.tables e below (T85.setTop (mkF m 516 #[.val (.int vlay), .val (.int vend), .val (.int vsc), .val (.long vbits), .second, .val (.int zz), .val (.int az), .val (.int pp), .val (.int ff), .val (.int (Int32.ofNat ne)), .unset, .unset, .unset, .unset, .unset, .unset, .unset] [(.int (26 : Int32)), (.int (26 : Int32)), (.ref b7), (.ref b7)])) _
    refine XS.iload X85.here hx rfl (hb hby at_516) rfl ?_
    show Steps p.tables e below (T85.setTop (mkF m 518 #[.val (.int vlay), .val (.int vend), .val (.int vsc), .val (.long vbits), .second, .val (.int zz), .val (.int az), .val (.int pp), .val (.int ff), .val (.int (Int32.ofNat ne)), .unset, .unset, .unset, .unset, .unset, .unset, .unset] [(.int pp), (.int (26 : Int32)), (.int (26 : Int32)), (.ref b7), (.ref b7)])) _
    refine XS.iload X85.here hx rfl (hb hby at_518) rfl ?_
    show Steps p.tables e below (T85.setTop (mkF m 520 #[.val (.int vlay), .val (.int vend), .val (.int vsc), .val (.long vbits), .second, .val (.int zz), .val (.int az), .val (.int pp), .val (.int ff), .val (.int (Int32.ofNat ne)), .unset, .unset, .unset, .unset, .unset, .unset, .unset] [(.int zz), (.int pp), (.int (26 : Int32)), (.int (26 : Int32)), (.ref b7), (.ref b7)])) _
    refine XS.iload X85.here hx rfl (hb hby at_520) rfl ?_
    show Steps p.tables e below (T85.setTop (mkF m 522 #[.val (.int vlay), .val (.int vend), .val (.int vsc), .val (.long vbits), .second, .val (.int zz), .val (.int az), .val (.int pp), .val (.int ff), .val (.int (Int32.ofNat ne)), .unset, .unset, .unset, .unset, .unset, .unset, .unset] [(.int az), (.int zz), (.int pp), (.int (26 : Int32)), (.int (26 : Int32)), (.ref b7), (.ref b7)])) _
    refine XS.iload X85.here hx rfl (hb hby at_522) rfl ?_
    show Steps p.tables e below (T85.setTop (mkF m 524 #[.val (.int vlay), .val (.int vend), .val (.int vsc), .val (.long vbits), .second, .val (.int zz), .val (.int az), .val (.int pp), .val (.int ff), .val (.int (Int32.ofNat ne)), .unset, .unset, .unset, .unset, .unset, .unset, .unset] [(.int ff), (.int az), (.int zz), (.int pp), (.int (26 : Int32)), (.int (26 : Int32)), (.ref b7), (.ref b7)])) _
    refine XS.lloadN X85.here hx rfl (hb hby at_524) rfl ?_
    show Steps p.tables e below (T85.setTop (mkF m 525 #[.val (.int vlay), .val (.int vend), .val (.int vsc), .val (.long vbits), .second, .val (.int zz), .val (.int az), .val (.int pp), .val (.int ff), .val (.int (Int32.ofNat ne)), .unset, .unset, .unset, .unset, .unset, .unset, .unset] [(.long vbits), (.int ff), (.int az), (.int zz), (.int pp), (.int (26 : Int32)), (.int (26 : Int32)), (.ref b7), (.ref b7)])) _
    refine st86 _ ?_
    show Steps p.tables e below (T86.setTop (mkF m 528 #[.val (.int vlay), .val (.int vend), .val (.int vsc), .val (.long vbits), .second, .val (.int zz), .val (.int az), .val (.int pp), .val (.int ff), .val (.int (Int32.ofNat ne)), .unset, .unset, .unset, .unset, .unset, .unset, .unset] [(.int (own_ch (26 : Int32) pp zz az ff vbits)), (.int (26 : Int32)), (.ref b7), (.ref b7)])) _
    refine st88 _ ?_
    show Steps p.tables e below (T88.setTop (mkF m 529 #[.val (.int vlay), .val (.int vend), .val (.int vsc), .val (.long vbits), .second, .val (.int zz), .val (.int az), .val (.int pp), .val (.int ff), .val (.int (Int32.ofNat ne)), .unset, .unset, .unset, .unset, .unset, .unset, .unset] [(.ref b7)])) _
    refine XS.dup X88.here hx rfl (hb hby at_529) rfl rfl ?_
    show Steps p.tables e below (T88.setTop (mkF m 530 #[.val (.int vlay), .val (.int vend), .val (.int vsc), .val (.long vbits), .second, .val (.int zz), .val (.int az), .val (.int pp), .val (.int ff), .val (.int (Int32.ofNat ne)), .unset, .unset, .unset, .unset, .unset, .unset, .unset] [(.ref b7), (.ref b7)])) _
    refine XS.bipush X88.here hx rfl (hb hby at_530) ?_
    show Steps p.tables e below (T88.setTop (mkF m 532 #[.val (.int vlay), .val (.int vend), .val (.int vsc), .val (.long vbits), .second, .val (.int zz), .val (.int az), .val (.int pp), .val (.int ff), .val (.int (Int32.ofNat ne)), .unset, .unset, .unset, .unset, .unset, .unset, .unset] [(.int (27 : Int32)), (.ref b7), (.ref b7)])) _
    refine XS.bipush X88.here hx rfl (hb hby at_532) ?_
    show Steps p.tables e below (T88.setTop (mkF m 534 #[.val (.int vlay), .val (.int vend), .val (.int vsc), .val (.long vbits), .second, .val (.int zz), .val (.int az), .val (.int pp), .val (.int ff), .val (.int (Int32.ofNat ne)), .unset, .unset, .unset, .unset, .unset, .unset, .unset] [(.int (27 : Int32)), (.int (27 : Int32)), (.ref b7), (.ref b7)])) _
    refine XS.iload X88.here hx rfl (hb hby at_534) rfl ?_
    show Steps p.tables e below (T88.setTop (mkF m 536 #[.val (.int vlay), .val (.int vend), .val (.int vsc), .val (.long vbits), .second, .val (.int zz), .val (.int az), .val (.int pp), .val (.int ff), .val (.int (Int32.ofNat ne)), .unset, .unset, .unset, .unset, .unset, .unset, .unset] [(.int pp), (.int (27 : Int32)), (.int (27 : Int32)), (.ref b7), (.ref b7)])) _
    refine XS.iload X88.here hx rfl (hb hby at_536) rfl ?_
    show Steps p.tables e below (T88.setTop (mkF m 538 #[.val (.int vlay), .val (.int vend), .val (.int vsc), .val (.long vbits), .second, .val (.int zz), .val (.int az), .val (.int pp), .val (.int ff), .val (.int (Int32.ofNat ne)), .unset, .unset, .unset, .unset, .unset, .unset, .unset] [(.int zz), (.int pp), (.int (27 : Int32)), (.int (27 : Int32)), (.ref b7), (.ref b7)])) _
    refine XS.iload X88.here hx rfl (hb hby at_538) rfl ?_
    show Steps p.tables e below (T88.setTop (mkF m 540 #[.val (.int vlay), .val (.int vend), .val (.int vsc), .val (.long vbits), .second, .val (.int zz), .val (.int az), .val (.int pp), .val (.int ff), .val (.int (Int32.ofNat ne)), .unset, .unset, .unset, .unset, .unset, .unset, .unset] [(.int az), (.int zz), (.int pp), (.int (27 : Int32)), (.int (27 : Int32)), (.ref b7), (.ref b7)])) _
    refine XS.iload X88.here hx rfl (hb hby at_540) rfl ?_
    show Steps p.tables e below (T88.setTop (mkF m 542 #[.val (.int vlay), .val (.int vend), .val (.int vsc), .val (.long vbits), .second, .val (.int zz), .val (.int az), .val (.int pp), .val (.int ff), .val (.int (Int32.ofNat ne)), .unset, .unset, .unset, .unset, .unset, .unset, .unset] [(.int ff), (.int az), (.int zz), (.int pp), (.int (27 : Int32)), (.int (27 : Int32)), (.ref b7), (.ref b7)])) _
    refine XS.lloadN X88.here hx rfl (hb hby at_542) rfl ?_
    show Steps p.tables e below (T88.setTop (mkF m 543 #[.val (.int vlay), .val (.int vend), .val (.int vsc), .val (.long vbits), .second, .val (.int zz), .val (.int az), .val (.int pp), .val (.int ff), .val (.int (Int32.ofNat ne)), .unset, .unset, .unset, .unset, .unset, .unset, .unset] [(.long vbits), (.int ff), (.int az), (.int zz), (.int pp), (.int (27 : Int32)), (.int (27 : Int32)), (.ref b7), (.ref b7)])) _
    refine st89 _ ?_
    show Steps p.tables e below (T89.setTop (mkF m 546 #[.val (.int vlay), .val (.int vend), .val (.int vsc), .val (.long vbits), .second, .val (.int zz), .val (.int az), .val (.int pp), .val (.int ff), .val (.int (Int32.ofNat ne)), .unset, .unset, .unset, .unset, .unset, .unset, .unset] [(.int (own_ch (27 : Int32) pp zz az ff vbits)), (.int (27 : Int32)), (.ref b7), (.ref b7)])) _
    refine st91 _ ?_
    show Steps p.tables e below (T91.setTop (mkF m 547 #[.val (.int vlay), .val (.int vend), .val (.int vsc), .val (.long vbits), .second, .val (.int zz), .val (.int az), .val (.int pp), .val (.int ff), .val (.int (Int32.ofNat ne)), .unset, .unset, .unset, .unset, .unset, .unset, .unset] [(.ref b7)])) _
    refine XS.dup X91.here hx rfl (hb hby at_547) rfl rfl ?_
    show Steps p.tables e below (T91.setTop (mkF m 548 #[.val (.int vlay), .val (.int vend), .val (.int vsc), .val (.long vbits), .second, .val (.int zz), .val (.int az), .val (.int pp), .val (.int ff), .val (.int (Int32.ofNat ne)), .unset, .unset, .unset, .unset, .unset, .unset, .unset] [(.ref b7), (.ref b7)])) _
    refine XS.bipush X91.here hx rfl (hb hby at_548) ?_
    show Steps p.tables e below (T91.setTop (mkF m 550 #[.val (.int vlay), .val (.int vend), .val (.int vsc), .val (.long vbits), .second, .val (.int zz), .val (.int az), .val (.int pp), .val (.int ff), .val (.int (Int32.ofNat ne)), .unset, .unset, .unset, .unset, .unset, .unset, .unset] [(.int (28 : Int32)), (.ref b7), (.ref b7)])) _
    refine XS.bipush X91.here hx rfl (hb hby at_550) ?_
    show Steps p.tables e below (T91.setTop (mkF m 552 #[.val (.int vlay), .val (.int vend), .val (.int vsc), .val (.long vbits), .second, .val (.int zz), .val (.int az), .val (.int pp), .val (.int ff), .val (.int (Int32.ofNat ne)), .unset, .unset, .unset, .unset, .unset, .unset, .unset] [(.int (28 : Int32)), (.int (28 : Int32)), (.ref b7), (.ref b7)])) _
    refine XS.iload X91.here hx rfl (hb hby at_552) rfl ?_
    show Steps p.tables e below (T91.setTop (mkF m 554 #[.val (.int vlay), .val (.int vend), .val (.int vsc), .val (.long vbits), .second, .val (.int zz), .val (.int az), .val (.int pp), .val (.int ff), .val (.int (Int32.ofNat ne)), .unset, .unset, .unset, .unset, .unset, .unset, .unset] [(.int pp), (.int (28 : Int32)), (.int (28 : Int32)), (.ref b7), (.ref b7)])) _
    refine XS.iload X91.here hx rfl (hb hby at_554) rfl ?_
    show Steps p.tables e below (T91.setTop (mkF m 556 #[.val (.int vlay), .val (.int vend), .val (.int vsc), .val (.long vbits), .second, .val (.int zz), .val (.int az), .val (.int pp), .val (.int ff), .val (.int (Int32.ofNat ne)), .unset, .unset, .unset, .unset, .unset, .unset, .unset] [(.int zz), (.int pp), (.int (28 : Int32)), (.int (28 : Int32)), (.ref b7), (.ref b7)])) _
    refine XS.iload X91.here hx rfl (hb hby at_556) rfl ?_
    show Steps p.tables e below (T91.setTop (mkF m 558 #[.val (.int vlay), .val (.int vend), .val (.int vsc), .val (.long vbits), .second, .val (.int zz), .val (.int az), .val (.int pp), .val (.int ff), .val (.int (Int32.ofNat ne)), .unset, .unset, .unset, .unset, .unset, .unset, .unset] [(.int az), (.int zz), (.int pp), (.int (28 : Int32)), (.int (28 : Int32)), (.ref b7), (.ref b7)])) _
    refine XS.iload X91.here hx rfl (hb hby at_558) rfl ?_
    show Steps p.tables e below (T91.setTop (mkF m 560 #[.val (.int vlay), .val (.int vend), .val (.int vsc), .val (.long vbits), .second, .val (.int zz), .val (.int az), .val (.int pp), .val (.int ff), .val (.int (Int32.ofNat ne)), .unset, .unset, .unset, .unset, .unset, .unset, .unset] [(.int ff), (.int az), (.int zz), (.int pp), (.int (28 : Int32)), (.int (28 : Int32)), (.ref b7), (.ref b7)])) _
    refine XS.lloadN X91.here hx rfl (hb hby at_560) rfl ?_
    show Steps p.tables e below (T91.setTop (mkF m 561 #[.val (.int vlay), .val (.int vend), .val (.int vsc), .val (.long vbits), .second, .val (.int zz), .val (.int az), .val (.int pp), .val (.int ff), .val (.int (Int32.ofNat ne)), .unset, .unset, .unset, .unset, .unset, .unset, .unset] [(.long vbits), (.int ff), (.int az), (.int zz), (.int pp), (.int (28 : Int32)), (.int (28 : Int32)), (.ref b7), (.ref b7)])) _
    refine st92 _ ?_
    show Steps p.tables e below (T92.setTop (mkF m 564 #[.val (.int vlay), .val (.int vend), .val (.int vsc), .val (.long vbits), .second, .val (.int zz), .val (.int az), .val (.int pp), .val (.int ff), .val (.int (Int32.ofNat ne)), .unset, .unset, .unset, .unset, .unset, .unset, .unset] [(.int (own_ch (28 : Int32) pp zz az ff vbits)), (.int (28 : Int32)), (.ref b7), (.ref b7)])) _
    refine st94 _ ?_
    show Steps p.tables e below (T94.setTop (mkF m 565 #[.val (.int vlay), .val (.int vend), .val (.int vsc), .val (.long vbits), .second, .val (.int zz), .val (.int az), .val (.int pp), .val (.int ff), .val (.int (Int32.ofNat ne)), .unset, .unset, .unset, .unset, .unset, .unset, .unset] [(.ref b7)])) _
    refine XS.dup X94.here hx rfl (hb hby at_565) rfl rfl ?_
    show Steps p.tables e below (T94.setTop (mkF m 566 #[.val (.int vlay), .val (.int vend), .val (.int vsc), .val (.long vbits), .second, .val (.int zz), .val (.int az), .val (.int pp), .val (.int ff), .val (.int (Int32.ofNat ne)), .unset, .unset, .unset, .unset, .unset, .unset, .unset] [(.ref b7), (.ref b7)])) _
    refine XS.bipush X94.here hx rfl (hb hby at_566) ?_
    show Steps p.tables e below (T94.setTop (mkF m 568 #[.val (.int vlay), .val (.int vend), .val (.int vsc), .val (.long vbits), .second, .val (.int zz), .val (.int az), .val (.int pp), .val (.int ff), .val (.int (Int32.ofNat ne)), .unset, .unset, .unset, .unset, .unset, .unset, .unset] [(.int (29 : Int32)), (.ref b7), (.ref b7)])) _
    refine XS.bipush X94.here hx rfl (hb hby at_568) ?_
    show Steps p.tables e below (T94.setTop (mkF m 570 #[.val (.int vlay), .val (.int vend), .val (.int vsc), .val (.long vbits), .second, .val (.int zz), .val (.int az), .val (.int pp), .val (.int ff), .val (.int (Int32.ofNat ne)), .unset, .unset, .unset, .unset, .unset, .unset, .unset] [(.int (29 : Int32)), (.int (29 : Int32)), (.ref b7), (.ref b7)])) _
    refine XS.iload X94.here hx rfl (hb hby at_570) rfl ?_
    show Steps p.tables e below (T94.setTop (mkF m 572 #[.val (.int vlay), .val (.int vend), .val (.int vsc), .val (.long vbits), .second, .val (.int zz), .val (.int az), .val (.int pp), .val (.int ff), .val (.int (Int32.ofNat ne)), .unset, .unset, .unset, .unset, .unset, .unset, .unset] [(.int pp), (.int (29 : Int32)), (.int (29 : Int32)), (.ref b7), (.ref b7)])) _
    refine XS.iload X94.here hx rfl (hb hby at_572) rfl ?_
    show Steps p.tables e below (T94.setTop (mkF m 574 #[.val (.int vlay), .val (.int vend), .val (.int vsc), .val (.long vbits), .second, .val (.int zz), .val (.int az), .val (.int pp), .val (.int ff), .val (.int (Int32.ofNat ne)), .unset, .unset, .unset, .unset, .unset, .unset, .unset] [(.int zz), (.int pp), (.int (29 : Int32)), (.int (29 : Int32)), (.ref b7), (.ref b7)])) _
    refine XS.iload X94.here hx rfl (hb hby at_574) rfl ?_
    show Steps p.tables e below (T94.setTop (mkF m 576 #[.val (.int vlay), .val (.int vend), .val (.int vsc), .val (.long vbits), .second, .val (.int zz), .val (.int az), .val (.int pp), .val (.int ff), .val (.int (Int32.ofNat ne)), .unset, .unset, .unset, .unset, .unset, .unset, .unset] [(.int az), (.int zz), (.int pp), (.int (29 : Int32)), (.int (29 : Int32)), (.ref b7), (.ref b7)])) _
    refine XS.iload X94.here hx rfl (hb hby at_576) rfl ?_
    show Steps p.tables e below (T94.setTop (mkF m 578 #[.val (.int vlay), .val (.int vend), .val (.int vsc), .val (.long vbits), .second, .val (.int zz), .val (.int az), .val (.int pp), .val (.int ff), .val (.int (Int32.ofNat ne)), .unset, .unset, .unset, .unset, .unset, .unset, .unset] [(.int ff), (.int az), (.int zz), (.int pp), (.int (29 : Int32)), (.int (29 : Int32)), (.ref b7), (.ref b7)])) _
    refine XS.lloadN X94.here hx rfl (hb hby at_578) rfl ?_
    show Steps p.tables e below (T94.setTop (mkF m 579 #[.val (.int vlay), .val (.int vend), .val (.int vsc), .val (.long vbits), .second, .val (.int zz), .val (.int az), .val (.int pp), .val (.int ff), .val (.int (Int32.ofNat ne)), .unset, .unset, .unset, .unset, .unset, .unset, .unset] [(.long vbits), (.int ff), (.int az), (.int zz), (.int pp), (.int (29 : Int32)), (.int (29 : Int32)), (.ref b7), (.ref b7)])) _
    refine st95 _ ?_
    show Steps p.tables e below (T95.setTop (mkF m 582 #[.val (.int vlay), .val (.int vend), .val (.int vsc), .val (.long vbits), .second, .val (.int zz), .val (.int az), .val (.int pp), .val (.int ff), .val (.int (Int32.ofNat ne)), .unset, .unset, .unset, .unset, .unset, .unset, .unset] [(.int (own_ch (29 : Int32) pp zz az ff vbits)), (.int (29 : Int32)), (.ref b7), (.ref b7)])) _
    refine st97 _ ?_
    show Steps p.tables e below (T97.setTop (mkF m 583 #[.val (.int vlay), .val (.int vend), .val (.int vsc), .val (.long vbits), .second, .val (.int zz), .val (.int az), .val (.int pp), .val (.int ff), .val (.int (Int32.ofNat ne)), .unset, .unset, .unset, .unset, .unset, .unset, .unset] [(.ref b7)])) _
    refine XS.dup X97.here hx rfl (hb hby at_583) rfl rfl ?_
    show Steps p.tables e below (T97.setTop (mkF m 584 #[.val (.int vlay), .val (.int vend), .val (.int vsc), .val (.long vbits), .second, .val (.int zz), .val (.int az), .val (.int pp), .val (.int ff), .val (.int (Int32.ofNat ne)), .unset, .unset, .unset, .unset, .unset, .unset, .unset] [(.ref b7), (.ref b7)])) _
    refine XS.bipush X97.here hx rfl (hb hby at_584) ?_
    show Steps p.tables e below (T97.setTop (mkF m 586 #[.val (.int vlay), .val (.int vend), .val (.int vsc), .val (.long vbits), .second, .val (.int zz), .val (.int az), .val (.int pp), .val (.int ff), .val (.int (Int32.ofNat ne)), .unset, .unset, .unset, .unset, .unset, .unset, .unset] [(.int (30 : Int32)), (.ref b7), (.ref b7)])) _
    refine XS.bipush X97.here hx rfl (hb hby at_586) ?_
    show Steps p.tables e below (T97.setTop (mkF m 588 #[.val (.int vlay), .val (.int vend), .val (.int vsc), .val (.long vbits), .second, .val (.int zz), .val (.int az), .val (.int pp), .val (.int ff), .val (.int (Int32.ofNat ne)), .unset, .unset, .unset, .unset, .unset, .unset, .unset] [(.int (30 : Int32)), (.int (30 : Int32)), (.ref b7), (.ref b7)])) _
    refine XS.iload X97.here hx rfl (hb hby at_588) rfl ?_
    show Steps p.tables e below (T97.setTop (mkF m 590 #[.val (.int vlay), .val (.int vend), .val (.int vsc), .val (.long vbits), .second, .val (.int zz), .val (.int az), .val (.int pp), .val (.int ff), .val (.int (Int32.ofNat ne)), .unset, .unset, .unset, .unset, .unset, .unset, .unset] [(.int pp), (.int (30 : Int32)), (.int (30 : Int32)), (.ref b7), (.ref b7)])) _
    refine XS.iload X97.here hx rfl (hb hby at_590) rfl ?_
    show Steps p.tables e below (T97.setTop (mkF m 592 #[.val (.int vlay), .val (.int vend), .val (.int vsc), .val (.long vbits), .second, .val (.int zz), .val (.int az), .val (.int pp), .val (.int ff), .val (.int (Int32.ofNat ne)), .unset, .unset, .unset, .unset, .unset, .unset, .unset] [(.int zz), (.int pp), (.int (30 : Int32)), (.int (30 : Int32)), (.ref b7), (.ref b7)])) _
    refine XS.iload X97.here hx rfl (hb hby at_592) rfl ?_
    show Steps p.tables e below (T97.setTop (mkF m 594 #[.val (.int vlay), .val (.int vend), .val (.int vsc), .val (.long vbits), .second, .val (.int zz), .val (.int az), .val (.int pp), .val (.int ff), .val (.int (Int32.ofNat ne)), .unset, .unset, .unset, .unset, .unset, .unset, .unset] [(.int az), (.int zz), (.int pp), (.int (30 : Int32)), (.int (30 : Int32)), (.ref b7), (.ref b7)])) _
    refine XS.iload X97.here hx rfl (hb hby at_594) rfl ?_
    show Steps p.tables e below (T97.setTop (mkF m 596 #[.val (.int vlay), .val (.int vend), .val (.int vsc), .val (.long vbits), .second, .val (.int zz), .val (.int az), .val (.int pp), .val (.int ff), .val (.int (Int32.ofNat ne)), .unset, .unset, .unset, .unset, .unset, .unset, .unset] [(.int ff), (.int az), (.int zz), (.int pp), (.int (30 : Int32)), (.int (30 : Int32)), (.ref b7), (.ref b7)])) _
    refine XS.lloadN X97.here hx rfl (hb hby at_596) rfl ?_
    show Steps p.tables e below (T97.setTop (mkF m 597 #[.val (.int vlay), .val (.int vend), .val (.int vsc), .val (.long vbits), .second, .val (.int zz), .val (.int az), .val (.int pp), .val (.int ff), .val (.int (Int32.ofNat ne)), .unset, .unset, .unset, .unset, .unset, .unset, .unset] [(.long vbits), (.int ff), (.int az), (.int zz), (.int pp), (.int (30 : Int32)), (.int (30 : Int32)), (.ref b7), (.ref b7)])) _
    refine st98 _ ?_
    show Steps p.tables e below (T98.setTop (mkF m 600 #[.val (.int vlay), .val (.int vend), .val (.int vsc), .val (.long vbits), .second, .val (.int zz), .val (.int az), .val (.int pp), .val (.int ff), .val (.int (Int32.ofNat ne)), .unset, .unset, .unset, .unset, .unset, .unset, .unset] [(.int (own_ch (30 : Int32) pp zz az ff vbits)), (.int (30 : Int32)), (.ref b7), (.ref b7)])) _
    refine st100 _ ?_
    show Steps p.tables e below (T100.setTop (mkF m 601 #[.val (.int vlay), .val (.int vend), .val (.int vsc), .val (.long vbits), .second, .val (.int zz), .val (.int az), .val (.int pp), .val (.int ff), .val (.int (Int32.ofNat ne)), .unset, .unset, .unset, .unset, .unset, .unset, .unset] [(.ref b7)])) _
    refine XS.dup X100.here hx rfl (hb hby at_601) rfl rfl ?_
    show Steps p.tables e below (T100.setTop (mkF m 602 #[.val (.int vlay), .val (.int vend), .val (.int vsc), .val (.long vbits), .second, .val (.int zz), .val (.int az), .val (.int pp), .val (.int ff), .val (.int (Int32.ofNat ne)), .unset, .unset, .unset, .unset, .unset, .unset, .unset] [(.ref b7), (.ref b7)])) _
    refine XS.bipush X100.here hx rfl (hb hby at_602) ?_
    show Steps p.tables e below (T100.setTop (mkF m 604 #[.val (.int vlay), .val (.int vend), .val (.int vsc), .val (.long vbits), .second, .val (.int zz), .val (.int az), .val (.int pp), .val (.int ff), .val (.int (Int32.ofNat ne)), .unset, .unset, .unset, .unset, .unset, .unset, .unset] [(.int (31 : Int32)), (.ref b7), (.ref b7)])) _
    refine XS.bipush X100.here hx rfl (hb hby at_604) ?_
    show Steps p.tables e below (T100.setTop (mkF m 606 #[.val (.int vlay), .val (.int vend), .val (.int vsc), .val (.long vbits), .second, .val (.int zz), .val (.int az), .val (.int pp), .val (.int ff), .val (.int (Int32.ofNat ne)), .unset, .unset, .unset, .unset, .unset, .unset, .unset] [(.int (31 : Int32)), (.int (31 : Int32)), (.ref b7), (.ref b7)])) _
    refine XS.iload X100.here hx rfl (hb hby at_606) rfl ?_
    show Steps p.tables e below (T100.setTop (mkF m 608 #[.val (.int vlay), .val (.int vend), .val (.int vsc), .val (.long vbits), .second, .val (.int zz), .val (.int az), .val (.int pp), .val (.int ff), .val (.int (Int32.ofNat ne)), .unset, .unset, .unset, .unset, .unset, .unset, .unset] [(.int pp), (.int (31 : Int32)), (.int (31 : Int32)), (.ref b7), (.ref b7)])) _
    refine XS.iload X100.here hx rfl (hb hby at_608) rfl ?_
    show Steps p.tables e below (T100.setTop (mkF m 610 #[.val (.int vlay), .val (.int vend), .val (.int vsc), .val (.long vbits), .second, .val (.int zz), .val (.int az), .val (.int pp), .val (.int ff), .val (.int (Int32.ofNat ne)), .unset, .unset, .unset, .unset, .unset, .unset, .unset] [(.int zz), (.int pp), (.int (31 : Int32)), (.int (31 : Int32)), (.ref b7), (.ref b7)])) _
    refine XS.iload X100.here hx rfl (hb hby at_610) rfl ?_
    show Steps p.tables e below (T100.setTop (mkF m 612 #[.val (.int vlay), .val (.int vend), .val (.int vsc), .val (.long vbits), .second, .val (.int zz), .val (.int az), .val (.int pp), .val (.int ff), .val (.int (Int32.ofNat ne)), .unset, .unset, .unset, .unset, .unset, .unset, .unset] [(.int az), (.int zz), (.int pp), (.int (31 : Int32)), (.int (31 : Int32)), (.ref b7), (.ref b7)])) _
    refine XS.iload X100.here hx rfl (hb hby at_612) rfl ?_
    show Steps p.tables e below (T100.setTop (mkF m 614 #[.val (.int vlay), .val (.int vend), .val (.int vsc), .val (.long vbits), .second, .val (.int zz), .val (.int az), .val (.int pp), .val (.int ff), .val (.int (Int32.ofNat ne)), .unset, .unset, .unset, .unset, .unset, .unset, .unset] [(.int ff), (.int az), (.int zz), (.int pp), (.int (31 : Int32)), (.int (31 : Int32)), (.ref b7), (.ref b7)])) _
    refine XS.lloadN X100.here hx rfl (hb hby at_614) rfl ?_
    show Steps p.tables e below (T100.setTop (mkF m 615 #[.val (.int vlay), .val (.int vend), .val (.int vsc), .val (.long vbits), .second, .val (.int zz), .val (.int az), .val (.int pp), .val (.int ff), .val (.int (Int32.ofNat ne)), .unset, .unset, .unset, .unset, .unset, .unset, .unset] [(.long vbits), (.int ff), (.int az), (.int zz), (.int pp), (.int (31 : Int32)), (.int (31 : Int32)), (.ref b7), (.ref b7)])) _
    refine st101 _ ?_
    show Steps p.tables e below (T101.setTop (mkF m 618 #[.val (.int vlay), .val (.int vend), .val (.int vsc), .val (.long vbits), .second, .val (.int zz), .val (.int az), .val (.int pp), .val (.int ff), .val (.int (Int32.ofNat ne)), .unset, .unset, .unset, .unset, .unset, .unset, .unset] [(.int (own_ch (31 : Int32) pp zz az ff vbits)), (.int (31 : Int32)), (.ref b7), (.ref b7)])) _
    refine st103 _ ?_
    show Steps p.tables e below (T103.setTop (mkF m 619 #[.val (.int vlay), .val (.int vend), .val (.int vsc), .val (.long vbits), .second, .val (.int zz), .val (.int az), .val (.int pp), .val (.int ff), .val (.int (Int32.ofNat ne)), .unset, .unset, .unset, .unset, .unset, .unset, .unset] [(.ref b7)])) _
    refine XS.dup X103.here hx rfl (hb hby at_619) rfl rfl ?_
    show Steps p.tables e below (T103.setTop (mkF m 620 #[.val (.int vlay), .val (.int vend), .val (.int vsc), .val (.long vbits), .second, .val (.int zz), .val (.int az), .val (.int pp), .val (.int ff), .val (.int (Int32.ofNat ne)), .unset, .unset, .unset, .unset, .unset, .unset, .unset] [(.ref b7), (.ref b7)])) _
    refine XS.bipush X103.here hx rfl (hb hby at_620) ?_
    show Steps p.tables e below (T103.setTop (mkF m 622 #[.val (.int vlay), .val (.int vend), .val (.int vsc), .val (.long vbits), .second, .val (.int zz), .val (.int az), .val (.int pp), .val (.int ff), .val (.int (Int32.ofNat ne)), .unset, .unset, .unset, .unset, .unset, .unset, .unset] [(.int (32 : Int32)), (.ref b7), (.ref b7)])) _
    refine XS.bipush X103.here hx rfl (hb hby at_622) ?_
    show Steps p.tables e below (T103.setTop (mkF m 624 #[.val (.int vlay), .val (.int vend), .val (.int vsc), .val (.long vbits), .second, .val (.int zz), .val (.int az), .val (.int pp), .val (.int ff), .val (.int (Int32.ofNat ne)), .unset, .unset, .unset, .unset, .unset, .unset, .unset] [(.int (32 : Int32)), (.int (32 : Int32)), (.ref b7), (.ref b7)])) _
    refine XS.iload X103.here hx rfl (hb hby at_624) rfl ?_
    show Steps p.tables e below (T103.setTop (mkF m 626 #[.val (.int vlay), .val (.int vend), .val (.int vsc), .val (.long vbits), .second, .val (.int zz), .val (.int az), .val (.int pp), .val (.int ff), .val (.int (Int32.ofNat ne)), .unset, .unset, .unset, .unset, .unset, .unset, .unset] [(.int pp), (.int (32 : Int32)), (.int (32 : Int32)), (.ref b7), (.ref b7)])) _
    refine XS.iload X103.here hx rfl (hb hby at_626) rfl ?_
    show Steps p.tables e below (T103.setTop (mkF m 628 #[.val (.int vlay), .val (.int vend), .val (.int vsc), .val (.long vbits), .second, .val (.int zz), .val (.int az), .val (.int pp), .val (.int ff), .val (.int (Int32.ofNat ne)), .unset, .unset, .unset, .unset, .unset, .unset, .unset] [(.int zz), (.int pp), (.int (32 : Int32)), (.int (32 : Int32)), (.ref b7), (.ref b7)])) _
    refine XS.iload X103.here hx rfl (hb hby at_628) rfl ?_
    show Steps p.tables e below (T103.setTop (mkF m 630 #[.val (.int vlay), .val (.int vend), .val (.int vsc), .val (.long vbits), .second, .val (.int zz), .val (.int az), .val (.int pp), .val (.int ff), .val (.int (Int32.ofNat ne)), .unset, .unset, .unset, .unset, .unset, .unset, .unset] [(.int az), (.int zz), (.int pp), (.int (32 : Int32)), (.int (32 : Int32)), (.ref b7), (.ref b7)])) _
    refine XS.iload X103.here hx rfl (hb hby at_630) rfl ?_
    show Steps p.tables e below (T103.setTop (mkF m 632 #[.val (.int vlay), .val (.int vend), .val (.int vsc), .val (.long vbits), .second, .val (.int zz), .val (.int az), .val (.int pp), .val (.int ff), .val (.int (Int32.ofNat ne)), .unset, .unset, .unset, .unset, .unset, .unset, .unset] [(.int ff), (.int az), (.int zz), (.int pp), (.int (32 : Int32)), (.int (32 : Int32)), (.ref b7), (.ref b7)])) _
    refine XS.lloadN X103.here hx rfl (hb hby at_632) rfl ?_
    show Steps p.tables e below (T103.setTop (mkF m 633 #[.val (.int vlay), .val (.int vend), .val (.int vsc), .val (.long vbits), .second, .val (.int zz), .val (.int az), .val (.int pp), .val (.int ff), .val (.int (Int32.ofNat ne)), .unset, .unset, .unset, .unset, .unset, .unset, .unset] [(.long vbits), (.int ff), (.int az), (.int zz), (.int pp), (.int (32 : Int32)), (.int (32 : Int32)), (.ref b7), (.ref b7)])) _
    refine st104 _ ?_
    show Steps p.tables e below (T104.setTop (mkF m 636 #[.val (.int vlay), .val (.int vend), .val (.int vsc), .val (.long vbits), .second, .val (.int zz), .val (.int az), .val (.int pp), .val (.int ff), .val (.int (Int32.ofNat ne)), .unset, .unset, .unset, .unset, .unset, .unset, .unset] [(.int (own_ch (32 : Int32) pp zz az ff vbits)), (.int (32 : Int32)), (.ref b7), (.ref b7)])) _
    refine st106 _ ?_
    show Steps p.tables e below (T106.setTop (mkF m 637 #[.val (.int vlay), .val (.int vend), .val (.int vsc), .val (.long vbits), .second, .val (.int zz), .val (.int az), .val (.int pp), .val (.int ff), .val (.int (Int32.ofNat ne)), .unset, .unset, .unset, .unset, .unset, .unset, .unset] [(.ref b7)])) _
    refine XS.dup X106.here hx rfl (hb hby at_637) rfl rfl ?_
    show Steps p.tables e below (T106.setTop (mkF m 638 #[.val (.int vlay), .val (.int vend), .val (.int vsc), .val (.long vbits), .second, .val (.int zz), .val (.int az), .val (.int pp), .val (.int ff), .val (.int (Int32.ofNat ne)), .unset, .unset, .unset, .unset, .unset, .unset, .unset] [(.ref b7), (.ref b7)])) _
    refine XS.bipush X106.here hx rfl (hb hby at_638) ?_
    show Steps p.tables e below (T106.setTop (mkF m 640 #[.val (.int vlay), .val (.int vend), .val (.int vsc), .val (.long vbits), .second, .val (.int zz), .val (.int az), .val (.int pp), .val (.int ff), .val (.int (Int32.ofNat ne)), .unset, .unset, .unset, .unset, .unset, .unset, .unset] [(.int (33 : Int32)), (.ref b7), (.ref b7)])) _
    refine XS.bipush X106.here hx rfl (hb hby at_640) ?_
    show Steps p.tables e below (T106.setTop (mkF m 642 #[.val (.int vlay), .val (.int vend), .val (.int vsc), .val (.long vbits), .second, .val (.int zz), .val (.int az), .val (.int pp), .val (.int ff), .val (.int (Int32.ofNat ne)), .unset, .unset, .unset, .unset, .unset, .unset, .unset] [(.int (33 : Int32)), (.int (33 : Int32)), (.ref b7), (.ref b7)])) _
    refine XS.iload X106.here hx rfl (hb hby at_642) rfl ?_
    show Steps p.tables e below (T106.setTop (mkF m 644 #[.val (.int vlay), .val (.int vend), .val (.int vsc), .val (.long vbits), .second, .val (.int zz), .val (.int az), .val (.int pp), .val (.int ff), .val (.int (Int32.ofNat ne)), .unset, .unset, .unset, .unset, .unset, .unset, .unset] [(.int pp), (.int (33 : Int32)), (.int (33 : Int32)), (.ref b7), (.ref b7)])) _
    refine XS.iload X106.here hx rfl (hb hby at_644) rfl ?_
    show Steps p.tables e below (T106.setTop (mkF m 646 #[.val (.int vlay), .val (.int vend), .val (.int vsc), .val (.long vbits), .second, .val (.int zz), .val (.int az), .val (.int pp), .val (.int ff), .val (.int (Int32.ofNat ne)), .unset, .unset, .unset, .unset, .unset, .unset, .unset] [(.int zz), (.int pp), (.int (33 : Int32)), (.int (33 : Int32)), (.ref b7), (.ref b7)])) _
    refine XS.iload X106.here hx rfl (hb hby at_646) rfl ?_
    show Steps p.tables e below (T106.setTop (mkF m 648 #[.val (.int vlay), .val (.int vend), .val (.int vsc), .val (.long vbits), .second, .val (.int zz), .val (.int az), .val (.int pp), .val (.int ff), .val (.int (Int32.ofNat ne)), .unset, .unset, .unset, .unset, .unset, .unset, .unset] [(.int az), (.int zz), (.int pp), (.int (33 : Int32)), (.int (33 : Int32)), (.ref b7), (.ref b7)])) _
    refine XS.iload X106.here hx rfl (hb hby at_648) rfl ?_
    show Steps p.tables e below (T106.setTop (mkF m 650 #[.val (.int vlay), .val (.int vend), .val (.int vsc), .val (.long vbits), .second, .val (.int zz), .val (.int az), .val (.int pp), .val (.int ff), .val (.int (Int32.ofNat ne)), .unset, .unset, .unset, .unset, .unset, .unset, .unset] [(.int ff), (.int az), (.int zz), (.int pp), (.int (33 : Int32)), (.int (33 : Int32)), (.ref b7), (.ref b7)])) _
    refine XS.lloadN X106.here hx rfl (hb hby at_650) rfl ?_
    show Steps p.tables e below (T106.setTop (mkF m 651 #[.val (.int vlay), .val (.int vend), .val (.int vsc), .val (.long vbits), .second, .val (.int zz), .val (.int az), .val (.int pp), .val (.int ff), .val (.int (Int32.ofNat ne)), .unset, .unset, .unset, .unset, .unset, .unset, .unset] [(.long vbits), (.int ff), (.int az), (.int zz), (.int pp), (.int (33 : Int32)), (.int (33 : Int32)), (.ref b7), (.ref b7)])) _
    refine st107 _ ?_
    show Steps p.tables e below (T107.setTop (mkF m 654 #[.val (.int vlay), .val (.int vend), .val (.int vsc), .val (.long vbits), .second, .val (.int zz), .val (.int az), .val (.int pp), .val (.int ff), .val (.int (Int32.ofNat ne)), .unset, .unset, .unset, .unset, .unset, .unset, .unset] [(.int (own_ch (33 : Int32) pp zz az ff vbits)), (.int (33 : Int32)), (.ref b7), (.ref b7)])) _
    refine st109 _ ?_
    show Steps p.tables e below (T109.setTop (mkF m 655 #[.val (.int vlay), .val (.int vend), .val (.int vsc), .val (.long vbits), .second, .val (.int zz), .val (.int az), .val (.int pp), .val (.int ff), .val (.int (Int32.ofNat ne)), .unset, .unset, .unset, .unset, .unset, .unset, .unset] [(.ref b7)])) _
    refine XS.dup X109.here hx rfl (hb hby at_655) rfl rfl ?_
    show Steps p.tables e below (T109.setTop (mkF m 656 #[.val (.int vlay), .val (.int vend), .val (.int vsc), .val (.long vbits), .second, .val (.int zz), .val (.int az), .val (.int pp), .val (.int ff), .val (.int (Int32.ofNat ne)), .unset, .unset, .unset, .unset, .unset, .unset, .unset] [(.ref b7), (.ref b7)])) _
    refine XS.bipush X109.here hx rfl (hb hby at_656) ?_
    show Steps p.tables e below (T109.setTop (mkF m 658 #[.val (.int vlay), .val (.int vend), .val (.int vsc), .val (.long vbits), .second, .val (.int zz), .val (.int az), .val (.int pp), .val (.int ff), .val (.int (Int32.ofNat ne)), .unset, .unset, .unset, .unset, .unset, .unset, .unset] [(.int (34 : Int32)), (.ref b7), (.ref b7)])) _
    refine XS.bipush X109.here hx rfl (hb hby at_658) ?_
    show Steps p.tables e below (T109.setTop (mkF m 660 #[.val (.int vlay), .val (.int vend), .val (.int vsc), .val (.long vbits), .second, .val (.int zz), .val (.int az), .val (.int pp), .val (.int ff), .val (.int (Int32.ofNat ne)), .unset, .unset, .unset, .unset, .unset, .unset, .unset] [(.int (34 : Int32)), (.int (34 : Int32)), (.ref b7), (.ref b7)])) _
    refine XS.iload X109.here hx rfl (hb hby at_660) rfl ?_
    show Steps p.tables e below (T109.setTop (mkF m 662 #[.val (.int vlay), .val (.int vend), .val (.int vsc), .val (.long vbits), .second, .val (.int zz), .val (.int az), .val (.int pp), .val (.int ff), .val (.int (Int32.ofNat ne)), .unset, .unset, .unset, .unset, .unset, .unset, .unset] [(.int pp), (.int (34 : Int32)), (.int (34 : Int32)), (.ref b7), (.ref b7)])) _
    refine XS.iload X109.here hx rfl (hb hby at_662) rfl ?_
    show Steps p.tables e below (T109.setTop (mkF m 664 #[.val (.int vlay), .val (.int vend), .val (.int vsc), .val (.long vbits), .second, .val (.int zz), .val (.int az), .val (.int pp), .val (.int ff), .val (.int (Int32.ofNat ne)), .unset, .unset, .unset, .unset, .unset, .unset, .unset] [(.int zz), (.int pp), (.int (34 : Int32)), (.int (34 : Int32)), (.ref b7), (.ref b7)])) _
    refine XS.iload X109.here hx rfl (hb hby at_664) rfl ?_
    show Steps p.tables e below (T109.setTop (mkF m 666 #[.val (.int vlay), .val (.int vend), .val (.int vsc), .val (.long vbits), .second, .val (.int zz), .val (.int az), .val (.int pp), .val (.int ff), .val (.int (Int32.ofNat ne)), .unset, .unset, .unset, .unset, .unset, .unset, .unset] [(.int az), (.int zz), (.int pp), (.int (34 : Int32)), (.int (34 : Int32)), (.ref b7), (.ref b7)])) _
    refine XS.iload X109.here hx rfl (hb hby at_666) rfl ?_
    show Steps p.tables e below (T109.setTop (mkF m 668 #[.val (.int vlay), .val (.int vend), .val (.int vsc), .val (.long vbits), .second, .val (.int zz), .val (.int az), .val (.int pp), .val (.int ff), .val (.int (Int32.ofNat ne)), .unset, .unset, .unset, .unset, .unset, .unset, .unset] [(.int ff), (.int az), (.int zz), (.int pp), (.int (34 : Int32)), (.int (34 : Int32)), (.ref b7), (.ref b7)])) _
    refine XS.lloadN X109.here hx rfl (hb hby at_668) rfl ?_
    show Steps p.tables e below (T109.setTop (mkF m 669 #[.val (.int vlay), .val (.int vend), .val (.int vsc), .val (.long vbits), .second, .val (.int zz), .val (.int az), .val (.int pp), .val (.int ff), .val (.int (Int32.ofNat ne)), .unset, .unset, .unset, .unset, .unset, .unset, .unset] [(.long vbits), (.int ff), (.int az), (.int zz), (.int pp), (.int (34 : Int32)), (.int (34 : Int32)), (.ref b7), (.ref b7)])) _
    refine st110 _ ?_
    show Steps p.tables e below (T110.setTop (mkF m 672 #[.val (.int vlay), .val (.int vend), .val (.int vsc), .val (.long vbits), .second, .val (.int zz), .val (.int az), .val (.int pp), .val (.int ff), .val (.int (Int32.ofNat ne)), .unset, .unset, .unset, .unset, .unset, .unset, .unset] [(.int (own_ch (34 : Int32) pp zz az ff vbits)), (.int (34 : Int32)), (.ref b7), (.ref b7)])) _
    refine st112 _ ?_
    show Steps p.tables e below (T112.setTop (mkF m 673 #[.val (.int vlay), .val (.int vend), .val (.int vsc), .val (.long vbits), .second, .val (.int zz), .val (.int az), .val (.int pp), .val (.int ff), .val (.int (Int32.ofNat ne)), .unset, .unset, .unset, .unset, .unset, .unset, .unset] [(.ref b7)])) _
    refine XS.dup X112.here hx rfl (hb hby at_673) rfl rfl ?_
    show Steps p.tables e below (T112.setTop (mkF m 674 #[.val (.int vlay), .val (.int vend), .val (.int vsc), .val (.long vbits), .second, .val (.int zz), .val (.int az), .val (.int pp), .val (.int ff), .val (.int (Int32.ofNat ne)), .unset, .unset, .unset, .unset, .unset, .unset, .unset] [(.ref b7), (.ref b7)])) _
    refine XS.bipush X112.here hx rfl (hb hby at_674) ?_
    show Steps p.tables e below (T112.setTop (mkF m 676 #[.val (.int vlay), .val (.int vend), .val (.int vsc), .val (.long vbits), .second, .val (.int zz), .val (.int az), .val (.int pp), .val (.int ff), .val (.int (Int32.ofNat ne)), .unset, .unset, .unset, .unset, .unset, .unset, .unset] [(.int (35 : Int32)), (.ref b7), (.ref b7)])) _
    refine XS.bipush X112.here hx rfl (hb hby at_676) ?_
    show Steps p.tables e below (T112.setTop (mkF m 678 #[.val (.int vlay), .val (.int vend), .val (.int vsc), .val (.long vbits), .second, .val (.int zz), .val (.int az), .val (.int pp), .val (.int ff), .val (.int (Int32.ofNat ne)), .unset, .unset, .unset, .unset, .unset, .unset, .unset] [(.int (35 : Int32)), (.int (35 : Int32)), (.ref b7), (.ref b7)])) _
    refine XS.iload X112.here hx rfl (hb hby at_678) rfl ?_
    show Steps p.tables e below (T112.setTop (mkF m 680 #[.val (.int vlay), .val (.int vend), .val (.int vsc), .val (.long vbits), .second, .val (.int zz), .val (.int az), .val (.int pp), .val (.int ff), .val (.int (Int32.ofNat ne)), .unset, .unset, .unset, .unset, .unset, .unset, .unset] [(.int pp), (.int (35 : Int32)), (.int (35 : Int32)), (.ref b7), (.ref b7)])) _
    refine XS.iload X112.here hx rfl (hb hby at_680) rfl ?_
    show Steps p.tables e below (T112.setTop (mkF m 682 #[.val (.int vlay), .val (.int vend), .val (.int vsc), .val (.long vbits), .second, .val (.int zz), .val (.int az), .val (.int pp), .val (.int ff), .val (.int (Int32.ofNat ne)), .unset, .unset, .unset, .unset, .unset, .unset, .unset] [(.int zz), (.int pp), (.int (35 : Int32)), (.int (35 : Int32)), (.ref b7), (.ref b7)])) _
    refine XS.iload X112.here hx rfl (hb hby at_682) rfl ?_
    show Steps p.tables e below (T112.setTop (mkF m 684 #[.val (.int vlay), .val (.int vend), .val (.int vsc), .val (.long vbits), .second, .val (.int zz), .val (.int az), .val (.int pp), .val (.int ff), .val (.int (Int32.ofNat ne)), .unset, .unset, .unset, .unset, .unset, .unset, .unset] [(.int az), (.int zz), (.int pp), (.int (35 : Int32)), (.int (35 : Int32)), (.ref b7), (.ref b7)])) _
    refine XS.iload X112.here hx rfl (hb hby at_684) rfl ?_
    show Steps p.tables e below (T112.setTop (mkF m 686 #[.val (.int vlay), .val (.int vend), .val (.int vsc), .val (.long vbits), .second, .val (.int zz), .val (.int az), .val (.int pp), .val (.int ff), .val (.int (Int32.ofNat ne)), .unset, .unset, .unset, .unset, .unset, .unset, .unset] [(.int ff), (.int az), (.int zz), (.int pp), (.int (35 : Int32)), (.int (35 : Int32)), (.ref b7), (.ref b7)])) _
    refine XS.lloadN X112.here hx rfl (hb hby at_686) rfl ?_
    show Steps p.tables e below (T112.setTop (mkF m 687 #[.val (.int vlay), .val (.int vend), .val (.int vsc), .val (.long vbits), .second, .val (.int zz), .val (.int az), .val (.int pp), .val (.int ff), .val (.int (Int32.ofNat ne)), .unset, .unset, .unset, .unset, .unset, .unset, .unset] [(.long vbits), (.int ff), (.int az), (.int zz), (.int pp), (.int (35 : Int32)), (.int (35 : Int32)), (.ref b7), (.ref b7)])) _
    refine st113 _ ?_
    show Steps p.tables e below (T113.setTop (mkF m 690 #[.val (.int vlay), .val (.int vend), .val (.int vsc), .val (.long vbits), .second, .val (.int zz), .val (.int az), .val (.int pp), .val (.int ff), .val (.int (Int32.ofNat ne)), .unset, .unset, .unset, .unset, .unset, .unset, .unset] [(.int (own_ch (35 : Int32) pp zz az ff vbits)), (.int (35 : Int32)), (.ref b7), (.ref b7)])) _
    refine st115 _ ?_
    show Steps p.tables e below (T115.setTop (mkF m 691 #[.val (.int vlay), .val (.int vend), .val (.int vsc), .val (.long vbits), .second, .val (.int zz), .val (.int az), .val (.int pp), .val (.int ff), .val (.int (Int32.ofNat ne)), .unset, .unset, .unset, .unset, .unset, .unset, .unset] [(.ref b7)])) _
    refine XS.dup X115.here hx rfl (hb hby at_691) rfl rfl ?_
    show Steps p.tables e below (T115.setTop (mkF m 692 #[.val (.int vlay), .val (.int vend), .val (.int vsc), .val (.long vbits), .second, .val (.int zz), .val (.int az), .val (.int pp), .val (.int ff), .val (.int (Int32.ofNat ne)), .unset, .unset, .unset, .unset, .unset, .unset, .unset] [(.ref b7), (.ref b7)])) _
    refine XS.bipush X115.here hx rfl (hb hby at_692) ?_
    show Steps p.tables e below (T115.setTop (mkF m 694 #[.val (.int vlay), .val (.int vend), .val (.int vsc), .val (.long vbits), .second, .val (.int zz), .val (.int az), .val (.int pp), .val (.int ff), .val (.int (Int32.ofNat ne)), .unset, .unset, .unset, .unset, .unset, .unset, .unset] [(.int (36 : Int32)), (.ref b7), (.ref b7)])) _
    refine XS.bipush X115.here hx rfl (hb hby at_694) ?_
    show Steps p.tables e below (T115.setTop (mkF m 696 #[.val (.int vlay), .val (.int vend), .val (.int vsc), .val (.long vbits), .second, .val (.int zz), .val (.int az), .val (.int pp), .val (.int ff), .val (.int (Int32.ofNat ne)), .unset, .unset, .unset, .unset, .unset, .unset, .unset] [(.int (36 : Int32)), (.int (36 : Int32)), (.ref b7), (.ref b7)])) _
    refine XS.iload X115.here hx rfl (hb hby at_696) rfl ?_
    show Steps p.tables e below (T115.setTop (mkF m 698 #[.val (.int vlay), .val (.int vend), .val (.int vsc), .val (.long vbits), .second, .val (.int zz), .val (.int az), .val (.int pp), .val (.int ff), .val (.int (Int32.ofNat ne)), .unset, .unset, .unset, .unset, .unset, .unset, .unset] [(.int pp), (.int (36 : Int32)), (.int (36 : Int32)), (.ref b7), (.ref b7)])) _
    refine XS.iload X115.here hx rfl (hb hby at_698) rfl ?_
    show Steps p.tables e below (T115.setTop (mkF m 700 #[.val (.int vlay), .val (.int vend), .val (.int vsc), .val (.long vbits), .second, .val (.int zz), .val (.int az), .val (.int pp), .val (.int ff), .val (.int (Int32.ofNat ne)), .unset, .unset, .unset, .unset, .unset, .unset, .unset] [(.int zz), (.int pp), (.int (36 : Int32)), (.int (36 : Int32)), (.ref b7), (.ref b7)])) _
    refine XS.iload X115.here hx rfl (hb hby at_700) rfl ?_
    show Steps p.tables e below (T115.setTop (mkF m 702 #[.val (.int vlay), .val (.int vend), .val (.int vsc), .val (.long vbits), .second, .val (.int zz), .val (.int az), .val (.int pp), .val (.int ff), .val (.int (Int32.ofNat ne)), .unset, .unset, .unset, .unset, .unset, .unset, .unset] [(.int az), (.int zz), (.int pp), (.int (36 : Int32)), (.int (36 : Int32)), (.ref b7), (.ref b7)])) _
    refine XS.iload X115.here hx rfl (hb hby at_702) rfl ?_
    show Steps p.tables e below (T115.setTop (mkF m 704 #[.val (.int vlay), .val (.int vend), .val (.int vsc), .val (.long vbits), .second, .val (.int zz), .val (.int az), .val (.int pp), .val (.int ff), .val (.int (Int32.ofNat ne)), .unset, .unset, .unset, .unset, .unset, .unset, .unset] [(.int ff), (.int az), (.int zz), (.int pp), (.int (36 : Int32)), (.int (36 : Int32)), (.ref b7), (.ref b7)])) _
    refine XS.lloadN X115.here hx rfl (hb hby at_704) rfl ?_
    show Steps p.tables e below (T115.setTop (mkF m 705 #[.val (.int vlay), .val (.int vend), .val (.int vsc), .val (.long vbits), .second, .val (.int zz), .val (.int az), .val (.int pp), .val (.int ff), .val (.int (Int32.ofNat ne)), .unset, .unset, .unset, .unset, .unset, .unset, .unset] [(.long vbits), (.int ff), (.int az), (.int zz), (.int pp), (.int (36 : Int32)), (.int (36 : Int32)), (.ref b7), (.ref b7)])) _
    refine st116 _ ?_
    show Steps p.tables e below (T116.setTop (mkF m 708 #[.val (.int vlay), .val (.int vend), .val (.int vsc), .val (.long vbits), .second, .val (.int zz), .val (.int az), .val (.int pp), .val (.int ff), .val (.int (Int32.ofNat ne)), .unset, .unset, .unset, .unset, .unset, .unset, .unset] [(.int (own_ch (36 : Int32) pp zz az ff vbits)), (.int (36 : Int32)), (.ref b7), (.ref b7)])) _
    refine st118 _ ?_
    show Steps p.tables e below (T118.setTop (mkF m 709 #[.val (.int vlay), .val (.int vend), .val (.int vsc), .val (.long vbits), .second, .val (.int zz), .val (.int az), .val (.int pp), .val (.int ff), .val (.int (Int32.ofNat ne)), .unset, .unset, .unset, .unset, .unset, .unset, .unset] [(.ref b7)])) _
    refine XS.dup X118.here hx rfl (hb hby at_709) rfl rfl ?_
    show Steps p.tables e below (T118.setTop (mkF m 710 #[.val (.int vlay), .val (.int vend), .val (.int vsc), .val (.long vbits), .second, .val (.int zz), .val (.int az), .val (.int pp), .val (.int ff), .val (.int (Int32.ofNat ne)), .unset, .unset, .unset, .unset, .unset, .unset, .unset] [(.ref b7), (.ref b7)])) _
    refine XS.bipush X118.here hx rfl (hb hby at_710) ?_
    show Steps p.tables e below (T118.setTop (mkF m 712 #[.val (.int vlay), .val (.int vend), .val (.int vsc), .val (.long vbits), .second, .val (.int zz), .val (.int az), .val (.int pp), .val (.int ff), .val (.int (Int32.ofNat ne)), .unset, .unset, .unset, .unset, .unset, .unset, .unset] [(.int (37 : Int32)), (.ref b7), (.ref b7)])) _
    refine XS.bipush X118.here hx rfl (hb hby at_712) ?_
    show Steps p.tables e below (T118.setTop (mkF m 714 #[.val (.int vlay), .val (.int vend), .val (.int vsc), .val (.long vbits), .second, .val (.int zz), .val (.int az), .val (.int pp), .val (.int ff), .val (.int (Int32.ofNat ne)), .unset, .unset, .unset, .unset, .unset, .unset, .unset] [(.int (37 : Int32)), (.int (37 : Int32)), (.ref b7), (.ref b7)])) _
    refine XS.iload X118.here hx rfl (hb hby at_714) rfl ?_
    show Steps p.tables e below (T118.setTop (mkF m 716 #[.val (.int vlay), .val (.int vend), .val (.int vsc), .val (.long vbits), .second, .val (.int zz), .val (.int az), .val (.int pp), .val (.int ff), .val (.int (Int32.ofNat ne)), .unset, .unset, .unset, .unset, .unset, .unset, .unset] [(.int pp), (.int (37 : Int32)), (.int (37 : Int32)), (.ref b7), (.ref b7)])) _
    refine XS.iload X118.here hx rfl (hb hby at_716) rfl ?_
    show Steps p.tables e below (T118.setTop (mkF m 718 #[.val (.int vlay), .val (.int vend), .val (.int vsc), .val (.long vbits), .second, .val (.int zz), .val (.int az), .val (.int pp), .val (.int ff), .val (.int (Int32.ofNat ne)), .unset, .unset, .unset, .unset, .unset, .unset, .unset] [(.int zz), (.int pp), (.int (37 : Int32)), (.int (37 : Int32)), (.ref b7), (.ref b7)])) _
    refine XS.iload X118.here hx rfl (hb hby at_718) rfl ?_
    show Steps p.tables e below (T118.setTop (mkF m 720 #[.val (.int vlay), .val (.int vend), .val (.int vsc), .val (.long vbits), .second, .val (.int zz), .val (.int az), .val (.int pp), .val (.int ff), .val (.int (Int32.ofNat ne)), .unset, .unset, .unset, .unset, .unset, .unset, .unset] [(.int az), (.int zz), (.int pp), (.int (37 : Int32)), (.int (37 : Int32)), (.ref b7), (.ref b7)])) _
    refine XS.iload X118.here hx rfl (hb hby at_720) rfl ?_
    show Steps p.tables e below (T118.setTop (mkF m 722 #[.val (.int vlay), .val (.int vend), .val (.int vsc), .val (.long vbits), .second, .val (.int zz), .val (.int az), .val (.int pp), .val (.int ff), .val (.int (Int32.ofNat ne)), .unset, .unset, .unset, .unset, .unset, .unset, .unset] [(.int ff), (.int az), (.int zz), (.int pp), (.int (37 : Int32)), (.int (37 : Int32)), (.ref b7), (.ref b7)])) _
    refine XS.lloadN X118.here hx rfl (hb hby at_722) rfl ?_
    show Steps p.tables e below (T118.setTop (mkF m 723 #[.val (.int vlay), .val (.int vend), .val (.int vsc), .val (.long vbits), .second, .val (.int zz), .val (.int az), .val (.int pp), .val (.int ff), .val (.int (Int32.ofNat ne)), .unset, .unset, .unset, .unset, .unset, .unset, .unset] [(.long vbits), (.int ff), (.int az), (.int zz), (.int pp), (.int (37 : Int32)), (.int (37 : Int32)), (.ref b7), (.ref b7)])) _
    refine st119 _ ?_
    show Steps p.tables e below (T119.setTop (mkF m 726 #[.val (.int vlay), .val (.int vend), .val (.int vsc), .val (.long vbits), .second, .val (.int zz), .val (.int az), .val (.int pp), .val (.int ff), .val (.int (Int32.ofNat ne)), .unset, .unset, .unset, .unset, .unset, .unset, .unset] [(.int (own_ch (37 : Int32) pp zz az ff vbits)), (.int (37 : Int32)), (.ref b7), (.ref b7)])) _
    refine st121 _ ?_
    show Steps p.tables e below (T121.setTop (mkF m 727 #[.val (.int vlay), .val (.int vend), .val (.int vsc), .val (.long vbits), .second, .val (.int zz), .val (.int az), .val (.int pp), .val (.int ff), .val (.int (Int32.ofNat ne)), .unset, .unset, .unset, .unset, .unset, .unset, .unset] [(.ref b7)])) _
    refine XS.dup X121.here hx rfl (hb hby at_727) rfl rfl ?_
    show Steps p.tables e below (T121.setTop (mkF m 728 #[.val (.int vlay), .val (.int vend), .val (.int vsc), .val (.long vbits), .second, .val (.int zz), .val (.int az), .val (.int pp), .val (.int ff), .val (.int (Int32.ofNat ne)), .unset, .unset, .unset, .unset, .unset, .unset, .unset] [(.ref b7), (.ref b7)])) _
    refine XS.bipush X121.here hx rfl (hb hby at_728) ?_
    show Steps p.tables e below (T121.setTop (mkF m 730 #[.val (.int vlay), .val (.int vend), .val (.int vsc), .val (.long vbits), .second, .val (.int zz), .val (.int az), .val (.int pp), .val (.int ff), .val (.int (Int32.ofNat ne)), .unset, .unset, .unset, .unset, .unset, .unset, .unset] [(.int (38 : Int32)), (.ref b7), (.ref b7)])) _
    refine XS.bipush X121.here hx rfl (hb hby at_730) ?_
    show Steps p.tables e below (T121.setTop (mkF m 732 #[.val (.int vlay), .val (.int vend), .val (.int vsc), .val (.long vbits), .second, .val (.int zz), .val (.int az), .val (.int pp), .val (.int ff), .val (.int (Int32.ofNat ne)), .unset, .unset, .unset, .unset, .unset, .unset, .unset] [(.int (38 : Int32)), (.int (38 : Int32)), (.ref b7), (.ref b7)])) _
    refine XS.iload X121.here hx rfl (hb hby at_732) rfl ?_
    show Steps p.tables e below (T121.setTop (mkF m 734 #[.val (.int vlay), .val (.int vend), .val (.int vsc), .val (.long vbits), .second, .val (.int zz), .val (.int az), .val (.int pp), .val (.int ff), .val (.int (Int32.ofNat ne)), .unset, .unset, .unset, .unset, .unset, .unset, .unset] [(.int pp), (.int (38 : Int32)), (.int (38 : Int32)), (.ref b7), (.ref b7)])) _
    refine XS.iload X121.here hx rfl (hb hby at_734) rfl ?_
    show Steps p.tables e below (T121.setTop (mkF m 736 #[.val (.int vlay), .val (.int vend), .val (.int vsc), .val (.long vbits), .second, .val (.int zz), .val (.int az), .val (.int pp), .val (.int ff), .val (.int (Int32.ofNat ne)), .unset, .unset, .unset, .unset, .unset, .unset, .unset] [(.int zz), (.int pp), (.int (38 : Int32)), (.int (38 : Int32)), (.ref b7), (.ref b7)])) _
    refine XS.iload X121.here hx rfl (hb hby at_736) rfl ?_
    show Steps p.tables e below (T121.setTop (mkF m 738 #[.val (.int vlay), .val (.int vend), .val (.int vsc), .val (.long vbits), .second, .val (.int zz), .val (.int az), .val (.int pp), .val (.int ff), .val (.int (Int32.ofNat ne)), .unset, .unset, .unset, .unset, .unset, .unset, .unset] [(.int az), (.int zz), (.int pp), (.int (38 : Int32)), (.int (38 : Int32)), (.ref b7), (.ref b7)])) _
    refine XS.iload X121.here hx rfl (hb hby at_738) rfl ?_
    show Steps p.tables e below (T121.setTop (mkF m 740 #[.val (.int vlay), .val (.int vend), .val (.int vsc), .val (.long vbits), .second, .val (.int zz), .val (.int az), .val (.int pp), .val (.int ff), .val (.int (Int32.ofNat ne)), .unset, .unset, .unset, .unset, .unset, .unset, .unset] [(.int ff), (.int az), (.int zz), (.int pp), (.int (38 : Int32)), (.int (38 : Int32)), (.ref b7), (.ref b7)])) _
    refine XS.lloadN X121.here hx rfl (hb hby at_740) rfl ?_
    show Steps p.tables e below (T121.setTop (mkF m 741 #[.val (.int vlay), .val (.int vend), .val (.int vsc), .val (.long vbits), .second, .val (.int zz), .val (.int az), .val (.int pp), .val (.int ff), .val (.int (Int32.ofNat ne)), .unset, .unset, .unset, .unset, .unset, .unset, .unset] [(.long vbits), (.int ff), (.int az), (.int zz), (.int pp), (.int (38 : Int32)), (.int (38 : Int32)), (.ref b7), (.ref b7)])) _
    refine st122 _ ?_
    show Steps p.tables e below (T122.setTop (mkF m 744 #[.val (.int vlay), .val (.int vend), .val (.int vsc), .val (.long vbits), .second, .val (.int zz), .val (.int az), .val (.int pp), .val (.int ff), .val (.int (Int32.ofNat ne)), .unset, .unset, .unset, .unset, .unset, .unset, .unset] [(.int (own_ch (38 : Int32) pp zz az ff vbits)), (.int (38 : Int32)), (.ref b7), (.ref b7)])) _
    refine st124 _ ?_
    show Steps p.tables e below (T124.setTop (mkF m 745 #[.val (.int vlay), .val (.int vend), .val (.int vsc), .val (.long vbits), .second, .val (.int zz), .val (.int az), .val (.int pp), .val (.int ff), .val (.int (Int32.ofNat ne)), .unset, .unset, .unset, .unset, .unset, .unset, .unset] [(.ref b7)])) _
    refine XS.dup X124.here hx rfl (hb hby at_745) rfl rfl ?_
    show Steps p.tables e below (T124.setTop (mkF m 746 #[.val (.int vlay), .val (.int vend), .val (.int vsc), .val (.long vbits), .second, .val (.int zz), .val (.int az), .val (.int pp), .val (.int ff), .val (.int (Int32.ofNat ne)), .unset, .unset, .unset, .unset, .unset, .unset, .unset] [(.ref b7), (.ref b7)])) _
    refine XS.bipush X124.here hx rfl (hb hby at_746) ?_
    show Steps p.tables e below (T124.setTop (mkF m 748 #[.val (.int vlay), .val (.int vend), .val (.int vsc), .val (.long vbits), .second, .val (.int zz), .val (.int az), .val (.int pp), .val (.int ff), .val (.int (Int32.ofNat ne)), .unset, .unset, .unset, .unset, .unset, .unset, .unset] [(.int (39 : Int32)), (.ref b7), (.ref b7)])) _
    refine XS.bipush X124.here hx rfl (hb hby at_748) ?_
    show Steps p.tables e below (T124.setTop (mkF m 750 #[.val (.int vlay), .val (.int vend), .val (.int vsc), .val (.long vbits), .second, .val (.int zz), .val (.int az), .val (.int pp), .val (.int ff), .val (.int (Int32.ofNat ne)), .unset, .unset, .unset, .unset, .unset, .unset, .unset] [(.int (39 : Int32)), (.int (39 : Int32)), (.ref b7), (.ref b7)])) _
    refine XS.iload X124.here hx rfl (hb hby at_750) rfl ?_
    show Steps p.tables e below (T124.setTop (mkF m 752 #[.val (.int vlay), .val (.int vend), .val (.int vsc), .val (.long vbits), .second, .val (.int zz), .val (.int az), .val (.int pp), .val (.int ff), .val (.int (Int32.ofNat ne)), .unset, .unset, .unset, .unset, .unset, .unset, .unset] [(.int pp), (.int (39 : Int32)), (.int (39 : Int32)), (.ref b7), (.ref b7)])) _
    refine XS.iload X124.here hx rfl (hb hby at_752) rfl ?_
    show Steps p.tables e below (T124.setTop (mkF m 754 #[.val (.int vlay), .val (.int vend), .val (.int vsc), .val (.long vbits), .second, .val (.int zz), .val (.int az), .val (.int pp), .val (.int ff), .val (.int (Int32.ofNat ne)), .unset, .unset, .unset, .unset, .unset, .unset, .unset] [(.int zz), (.int pp), (.int (39 : Int32)), (.int (39 : Int32)), (.ref b7), (.ref b7)])) _
    refine XS.iload X124.here hx rfl (hb hby at_754) rfl ?_
    show Steps p.tables e below (T124.setTop (mkF m 756 #[.val (.int vlay), .val (.int vend), .val (.int vsc), .val (.long vbits), .second, .val (.int zz), .val (.int az), .val (.int pp), .val (.int ff), .val (.int (Int32.ofNat ne)), .unset, .unset, .unset, .unset, .unset, .unset, .unset] [(.int az), (.int zz), (.int pp), (.int (39 : Int32)), (.int (39 : Int32)), (.ref b7), (.ref b7)])) _
    refine XS.iload X124.here hx rfl (hb hby at_756) rfl ?_
    show Steps p.tables e below (T124.setTop (mkF m 758 #[.val (.int vlay), .val (.int vend), .val (.int vsc), .val (.long vbits), .second, .val (.int zz), .val (.int az), .val (.int pp), .val (.int ff), .val (.int (Int32.ofNat ne)), .unset, .unset, .unset, .unset, .unset, .unset, .unset] [(.int ff), (.int az), (.int zz), (.int pp), (.int (39 : Int32)), (.int (39 : Int32)), (.ref b7), (.ref b7)])) _
    refine XS.lloadN X124.here hx rfl (hb hby at_758) rfl ?_
    show Steps p.tables e below (T124.setTop (mkF m 759 #[.val (.int vlay), .val (.int vend), .val (.int vsc), .val (.long vbits), .second, .val (.int zz), .val (.int az), .val (.int pp), .val (.int ff), .val (.int (Int32.ofNat ne)), .unset, .unset, .unset, .unset, .unset, .unset, .unset] [(.long vbits), (.int ff), (.int az), (.int zz), (.int pp), (.int (39 : Int32)), (.int (39 : Int32)), (.ref b7), (.ref b7)])) _
    refine st125 _ ?_
    show Steps p.tables e below (T125.setTop (mkF m 762 #[.val (.int vlay), .val (.int vend), .val (.int vsc), .val (.long vbits), .second, .val (.int zz), .val (.int az), .val (.int pp), .val (.int ff), .val (.int (Int32.ofNat ne)), .unset, .unset, .unset, .unset, .unset, .unset, .unset] [(.int (own_ch (39 : Int32) pp zz az ff vbits)), (.int (39 : Int32)), (.ref b7), (.ref b7)])) _
    refine st127 _ ?_
    show Steps p.tables e below (T127.setTop (mkF m 763 #[.val (.int vlay), .val (.int vend), .val (.int vsc), .val (.long vbits), .second, .val (.int zz), .val (.int az), .val (.int pp), .val (.int ff), .val (.int (Int32.ofNat ne)), .unset, .unset, .unset, .unset, .unset, .unset, .unset] [(.ref b7)])) _
    refine XS.dup X127.here hx rfl (hb hby at_763) rfl rfl ?_
    show Steps p.tables e below (T127.setTop (mkF m 764 #[.val (.int vlay), .val (.int vend), .val (.int vsc), .val (.long vbits), .second, .val (.int zz), .val (.int az), .val (.int pp), .val (.int ff), .val (.int (Int32.ofNat ne)), .unset, .unset, .unset, .unset, .unset, .unset, .unset] [(.ref b7), (.ref b7)])) _
    refine XS.bipush X127.here hx rfl (hb hby at_764) ?_
    show Steps p.tables e below (T127.setTop (mkF m 766 #[.val (.int vlay), .val (.int vend), .val (.int vsc), .val (.long vbits), .second, .val (.int zz), .val (.int az), .val (.int pp), .val (.int ff), .val (.int (Int32.ofNat ne)), .unset, .unset, .unset, .unset, .unset, .unset, .unset] [(.int (40 : Int32)), (.ref b7), (.ref b7)])) _
    refine XS.bipush X127.here hx rfl (hb hby at_766) ?_
    show Steps p.tables e below (T127.setTop (mkF m 768 #[.val (.int vlay), .val (.int vend), .val (.int vsc), .val (.long vbits), .second, .val (.int zz), .val (.int az), .val (.int pp), .val (.int ff), .val (.int (Int32.ofNat ne)), .unset, .unset, .unset, .unset, .unset, .unset, .unset] [(.int (40 : Int32)), (.int (40 : Int32)), (.ref b7), (.ref b7)])) _
    refine XS.iload X127.here hx rfl (hb hby at_768) rfl ?_
    show Steps p.tables e below (T127.setTop (mkF m 770 #[.val (.int vlay), .val (.int vend), .val (.int vsc), .val (.long vbits), .second, .val (.int zz), .val (.int az), .val (.int pp), .val (.int ff), .val (.int (Int32.ofNat ne)), .unset, .unset, .unset, .unset, .unset, .unset, .unset] [(.int pp), (.int (40 : Int32)), (.int (40 : Int32)), (.ref b7), (.ref b7)])) _
    refine XS.iload X127.here hx rfl (hb hby at_770) rfl ?_
    show Steps p.tables e below (T127.setTop (mkF m 772 #[.val (.int vlay), .val (.int vend), .val (.int vsc), .val (.long vbits), .second, .val (.int zz), .val (.int az), .val (.int pp), .val (.int ff), .val (.int (Int32.ofNat ne)), .unset, .unset, .unset, .unset, .unset, .unset, .unset] [(.int zz), (.int pp), (.int (40 : Int32)), (.int (40 : Int32)), (.ref b7), (.ref b7)])) _
    refine XS.iload X127.here hx rfl (hb hby at_772) rfl ?_
    show Steps p.tables e below (T127.setTop (mkF m 774 #[.val (.int vlay), .val (.int vend), .val (.int vsc), .val (.long vbits), .second, .val (.int zz), .val (.int az), .val (.int pp), .val (.int ff), .val (.int (Int32.ofNat ne)), .unset, .unset, .unset, .unset, .unset, .unset, .unset] [(.int az), (.int zz), (.int pp), (.int (40 : Int32)), (.int (40 : Int32)), (.ref b7), (.ref b7)])) _
    refine XS.iload X127.here hx rfl (hb hby at_774) rfl ?_
    show Steps p.tables e below (T127.setTop (mkF m 776 #[.val (.int vlay), .val (.int vend), .val (.int vsc), .val (.long vbits), .second, .val (.int zz), .val (.int az), .val (.int pp), .val (.int ff), .val (.int (Int32.ofNat ne)), .unset, .unset, .unset, .unset, .unset, .unset, .unset] [(.int ff), (.int az), (.int zz), (.int pp), (.int (40 : Int32)), (.int (40 : Int32)), (.ref b7), (.ref b7)])) _
    refine XS.lloadN X127.here hx rfl (hb hby at_776) rfl ?_
    show Steps p.tables e below (T127.setTop (mkF m 777 #[.val (.int vlay), .val (.int vend), .val (.int vsc), .val (.long vbits), .second, .val (.int zz), .val (.int az), .val (.int pp), .val (.int ff), .val (.int (Int32.ofNat ne)), .unset, .unset, .unset, .unset, .unset, .unset, .unset] [(.long vbits), (.int ff), (.int az), (.int zz), (.int pp), (.int (40 : Int32)), (.int (40 : Int32)), (.ref b7), (.ref b7)])) _
    refine st128 _ ?_
    show Steps p.tables e below (T128.setTop (mkF m 780 #[.val (.int vlay), .val (.int vend), .val (.int vsc), .val (.long vbits), .second, .val (.int zz), .val (.int az), .val (.int pp), .val (.int ff), .val (.int (Int32.ofNat ne)), .unset, .unset, .unset, .unset, .unset, .unset, .unset] [(.int (own_ch (40 : Int32) pp zz az ff vbits)), (.int (40 : Int32)), (.ref b7), (.ref b7)])) _
    refine st130 _ ?_
    show Steps p.tables e below (T130.setTop (mkF m 781 #[.val (.int vlay), .val (.int vend), .val (.int vsc), .val (.long vbits), .second, .val (.int zz), .val (.int az), .val (.int pp), .val (.int ff), .val (.int (Int32.ofNat ne)), .unset, .unset, .unset, .unset, .unset, .unset, .unset] [(.ref b7)])) _
    refine XS.dup X130.here hx rfl (hb hby at_781) rfl rfl ?_
    show Steps p.tables e below (T130.setTop (mkF m 782 #[.val (.int vlay), .val (.int vend), .val (.int vsc), .val (.long vbits), .second, .val (.int zz), .val (.int az), .val (.int pp), .val (.int ff), .val (.int (Int32.ofNat ne)), .unset, .unset, .unset, .unset, .unset, .unset, .unset] [(.ref b7), (.ref b7)])) _
    refine XS.bipush X130.here hx rfl (hb hby at_782) ?_
    show Steps p.tables e below (T130.setTop (mkF m 784 #[.val (.int vlay), .val (.int vend), .val (.int vsc), .val (.long vbits), .second, .val (.int zz), .val (.int az), .val (.int pp), .val (.int ff), .val (.int (Int32.ofNat ne)), .unset, .unset, .unset, .unset, .unset, .unset, .unset] [(.int (41 : Int32)), (.ref b7), (.ref b7)])) _
    refine XS.bipush X130.here hx rfl (hb hby at_784) ?_
    show Steps p.tables e below (T130.setTop (mkF m 786 #[.val (.int vlay), .val (.int vend), .val (.int vsc), .val (.long vbits), .second, .val (.int zz), .val (.int az), .val (.int pp), .val (.int ff), .val (.int (Int32.ofNat ne)), .unset, .unset, .unset, .unset, .unset, .unset, .unset] [(.int (41 : Int32)), (.int (41 : Int32)), (.ref b7), (.ref b7)])) _
    refine XS.iload X130.here hx rfl (hb hby at_786) rfl ?_
    show Steps p.tables e below (T130.setTop (mkF m 788 #[.val (.int vlay), .val (.int vend), .val (.int vsc), .val (.long vbits), .second, .val (.int zz), .val (.int az), .val (.int pp), .val (.int ff), .val (.int (Int32.ofNat ne)), .unset, .unset, .unset, .unset, .unset, .unset, .unset] [(.int pp), (.int (41 : Int32)), (.int (41 : Int32)), (.ref b7), (.ref b7)])) _
    refine XS.iload X130.here hx rfl (hb hby at_788) rfl ?_
    show Steps p.tables e below (T130.setTop (mkF m 790 #[.val (.int vlay), .val (.int vend), .val (.int vsc), .val (.long vbits), .second, .val (.int zz), .val (.int az), .val (.int pp), .val (.int ff), .val (.int (Int32.ofNat ne)), .unset, .unset, .unset, .unset, .unset, .unset, .unset] [(.int zz), (.int pp), (.int (41 : Int32)), (.int (41 : Int32)), (.ref b7), (.ref b7)])) _
    refine XS.iload X130.here hx rfl (hb hby at_790) rfl ?_
    show Steps p.tables e below (T130.setTop (mkF m 792 #[.val (.int vlay), .val (.int vend), .val (.int vsc), .val (.long vbits), .second, .val (.int zz), .val (.int az), .val (.int pp), .val (.int ff), .val (.int (Int32.ofNat ne)), .unset, .unset, .unset, .unset, .unset, .unset, .unset] [(.int az), (.int zz), (.int pp), (.int (41 : Int32)), (.int (41 : Int32)), (.ref b7), (.ref b7)])) _
    refine XS.iload X130.here hx rfl (hb hby at_792) rfl ?_
    show Steps p.tables e below (T130.setTop (mkF m 794 #[.val (.int vlay), .val (.int vend), .val (.int vsc), .val (.long vbits), .second, .val (.int zz), .val (.int az), .val (.int pp), .val (.int ff), .val (.int (Int32.ofNat ne)), .unset, .unset, .unset, .unset, .unset, .unset, .unset] [(.int ff), (.int az), (.int zz), (.int pp), (.int (41 : Int32)), (.int (41 : Int32)), (.ref b7), (.ref b7)])) _
    refine XS.lloadN X130.here hx rfl (hb hby at_794) rfl ?_
    show Steps p.tables e below (T130.setTop (mkF m 795 #[.val (.int vlay), .val (.int vend), .val (.int vsc), .val (.long vbits), .second, .val (.int zz), .val (.int az), .val (.int pp), .val (.int ff), .val (.int (Int32.ofNat ne)), .unset, .unset, .unset, .unset, .unset, .unset, .unset] [(.long vbits), (.int ff), (.int az), (.int zz), (.int pp), (.int (41 : Int32)), (.int (41 : Int32)), (.ref b7), (.ref b7)])) _
    refine st131 _ ?_
    show Steps p.tables e below (T131.setTop (mkF m 798 #[.val (.int vlay), .val (.int vend), .val (.int vsc), .val (.long vbits), .second, .val (.int zz), .val (.int az), .val (.int pp), .val (.int ff), .val (.int (Int32.ofNat ne)), .unset, .unset, .unset, .unset, .unset, .unset, .unset] [(.int (own_ch (41 : Int32) pp zz az ff vbits)), (.int (41 : Int32)), (.ref b7), (.ref b7)])) _
    refine st133 _ ?_
    show Steps p.tables e below (T133.setTop (mkF m 799 #[.val (.int vlay), .val (.int vend), .val (.int vsc), .val (.long vbits), .second, .val (.int zz), .val (.int az), .val (.int pp), .val (.int ff), .val (.int (Int32.ofNat ne)), .unset, .unset, .unset, .unset, .unset, .unset, .unset] [(.ref b7)])) _
    refine XS.dup X133.here hx rfl (hb hby at_799) rfl rfl ?_
    show Steps p.tables e below (T133.setTop (mkF m 800 #[.val (.int vlay), .val (.int vend), .val (.int vsc), .val (.long vbits), .second, .val (.int zz), .val (.int az), .val (.int pp), .val (.int ff), .val (.int (Int32.ofNat ne)), .unset, .unset, .unset, .unset, .unset, .unset, .unset] [(.ref b7), (.ref b7)])) _
    refine XS.bipush X133.here hx rfl (hb hby at_800) ?_
    show Steps p.tables e below (T133.setTop (mkF m 802 #[.val (.int vlay), .val (.int vend), .val (.int vsc), .val (.long vbits), .second, .val (.int zz), .val (.int az), .val (.int pp), .val (.int ff), .val (.int (Int32.ofNat ne)), .unset, .unset, .unset, .unset, .unset, .unset, .unset] [(.int (42 : Int32)), (.ref b7), (.ref b7)])) _
    refine XS.bipush X133.here hx rfl (hb hby at_802) ?_
    show Steps p.tables e below (T133.setTop (mkF m 804 #[.val (.int vlay), .val (.int vend), .val (.int vsc), .val (.long vbits), .second, .val (.int zz), .val (.int az), .val (.int pp), .val (.int ff), .val (.int (Int32.ofNat ne)), .unset, .unset, .unset, .unset, .unset, .unset, .unset] [(.int (42 : Int32)), (.int (42 : Int32)), (.ref b7), (.ref b7)])) _
    refine XS.iload X133.here hx rfl (hb hby at_804) rfl ?_
    show Steps p.tables e below (T133.setTop (mkF m 806 #[.val (.int vlay), .val (.int vend), .val (.int vsc), .val (.long vbits), .second, .val (.int zz), .val (.int az), .val (.int pp), .val (.int ff), .val (.int (Int32.ofNat ne)), .unset, .unset, .unset, .unset, .unset, .unset, .unset] [(.int pp), (.int (42 : Int32)), (.int (42 : Int32)), (.ref b7), (.ref b7)])) _
    refine XS.iload X133.here hx rfl (hb hby at_806) rfl ?_
    show Steps p.tables e below (T133.setTop (mkF m 808 #[.val (.int vlay), .val (.int vend), .val (.int vsc), .val (.long vbits), .second, .val (.int zz), .val (.int az), .val (.int pp), .val (.int ff), .val (.int (Int32.ofNat ne)), .unset, .unset, .unset, .unset, .unset, .unset, .unset] [(.int zz), (.int pp), (.int (42 : Int32)), (.int (42 : Int32)), (.ref b7), (.ref b7)])) _
    refine XS.iload X133.here hx rfl (hb hby at_808) rfl ?_
    show Steps p.tables e below (T133.setTop (mkF m 810 #[.val (.int vlay), .val (.int vend), .val (.int vsc), .val (.long vbits), .second, .val (.int zz), .val (.int az), .val (.int pp), .val (.int ff), .val (.int (Int32.ofNat ne)), .unset, .unset, .unset, .unset, .unset, .unset, .unset] [(.int az), (.int zz), (.int pp), (.int (42 : Int32)), (.int (42 : Int32)), (.ref b7), (.ref b7)])) _
    refine XS.iload X133.here hx rfl (hb hby at_810) rfl ?_
    show Steps p.tables e below (T133.setTop (mkF m 812 #[.val (.int vlay), .val (.int vend), .val (.int vsc), .val (.long vbits), .second, .val (.int zz), .val (.int az), .val (.int pp), .val (.int ff), .val (.int (Int32.ofNat ne)), .unset, .unset, .unset, .unset, .unset, .unset, .unset] [(.int ff), (.int az), (.int zz), (.int pp), (.int (42 : Int32)), (.int (42 : Int32)), (.ref b7), (.ref b7)])) _
    refine XS.lloadN X133.here hx rfl (hb hby at_812) rfl ?_
    show Steps p.tables e below (T133.setTop (mkF m 813 #[.val (.int vlay), .val (.int vend), .val (.int vsc), .val (.long vbits), .second, .val (.int zz), .val (.int az), .val (.int pp), .val (.int ff), .val (.int (Int32.ofNat ne)), .unset, .unset, .unset, .unset, .unset, .unset, .unset] [(.long vbits), (.int ff), (.int az), (.int zz), (.int pp), (.int (42 : Int32)), (.int (42 : Int32)), (.ref b7), (.ref b7)])) _
    refine st134 _ ?_
    show Steps p.tables e below (T134.setTop (mkF m 816 #[.val (.int vlay), .val (.int vend), .val (.int vsc), .val (.long vbits), .second, .val (.int zz), .val (.int az), .val (.int pp), .val (.int ff), .val (.int (Int32.ofNat ne)), .unset, .unset, .unset, .unset, .unset, .unset, .unset] [(.int (own_ch (42 : Int32) pp zz az ff vbits)), (.int (42 : Int32)), (.ref b7), (.ref b7)])) _
    refine st136 _ ?_
    show Steps p.tables e below (T136.setTop (mkF m 817 #[.val (.int vlay), .val (.int vend), .val (.int vsc), .val (.long vbits), .second, .val (.int zz), .val (.int az), .val (.int pp), .val (.int ff), .val (.int (Int32.ofNat ne)), .unset, .unset, .unset, .unset, .unset, .unset, .unset] [(.ref b7)])) _
    refine XS.dup X136.here hx rfl (hb hby at_817) rfl rfl ?_
    show Steps p.tables e below (T136.setTop (mkF m 818 #[.val (.int vlay), .val (.int vend), .val (.int vsc), .val (.long vbits), .second, .val (.int zz), .val (.int az), .val (.int pp), .val (.int ff), .val (.int (Int32.ofNat ne)), .unset, .unset, .unset, .unset, .unset, .unset, .unset] [(.ref b7), (.ref b7)])) _
    refine XS.bipush X136.here hx rfl (hb hby at_818) ?_
    show Steps p.tables e below (T136.setTop (mkF m 820 #[.val (.int vlay), .val (.int vend), .val (.int vsc), .val (.long vbits), .second, .val (.int zz), .val (.int az), .val (.int pp), .val (.int ff), .val (.int (Int32.ofNat ne)), .unset, .unset, .unset, .unset, .unset, .unset, .unset] [(.int (43 : Int32)), (.ref b7), (.ref b7)])) _
    refine XS.bipush X136.here hx rfl (hb hby at_820) ?_
    show Steps p.tables e below (T136.setTop (mkF m 822 #[.val (.int vlay), .val (.int vend), .val (.int vsc), .val (.long vbits), .second, .val (.int zz), .val (.int az), .val (.int pp), .val (.int ff), .val (.int (Int32.ofNat ne)), .unset, .unset, .unset, .unset, .unset, .unset, .unset] [(.int (43 : Int32)), (.int (43 : Int32)), (.ref b7), (.ref b7)])) _
    refine XS.iload X136.here hx rfl (hb hby at_822) rfl ?_
    show Steps p.tables e below (T136.setTop (mkF m 824 #[.val (.int vlay), .val (.int vend), .val (.int vsc), .val (.long vbits), .second, .val (.int zz), .val (.int az), .val (.int pp), .val (.int ff), .val (.int (Int32.ofNat ne)), .unset, .unset, .unset, .unset, .unset, .unset, .unset] [(.int pp), (.int (43 : Int32)), (.int (43 : Int32)), (.ref b7), (.ref b7)])) _
    refine XS.iload X136.here hx rfl (hb hby at_824) rfl ?_
    show Steps p.tables e below (T136.setTop (mkF m 826 #[.val (.int vlay), .val (.int vend), .val (.int vsc), .val (.long vbits), .second, .val (.int zz), .val (.int az), .val (.int pp), .val (.int ff), .val (.int (Int32.ofNat ne)), .unset, .unset, .unset, .unset, .unset, .unset, .unset] [(.int zz), (.int pp), (.int (43 : Int32)), (.int (43 : Int32)), (.ref b7), (.ref b7)])) _
    refine XS.iload X136.here hx rfl (hb hby at_826) rfl ?_
    show Steps p.tables e below (T136.setTop (mkF m 828 #[.val (.int vlay), .val (.int vend), .val (.int vsc), .val (.long vbits), .second, .val (.int zz), .val (.int az), .val (.int pp), .val (.int ff), .val (.int (Int32.ofNat ne)), .unset, .unset, .unset, .unset, .unset, .unset, .unset] [(.int az), (.int zz), (.int pp), (.int (43 : Int32)), (.int (43 : Int32)), (.ref b7), (.ref b7)])) _
    refine XS.iload X136.here hx rfl (hb hby at_828) rfl ?_
    show Steps p.tables e below (T136.setTop (mkF m 830 #[.val (.int vlay), .val (.int vend), .val (.int vsc), .val (.long vbits), .second, .val (.int zz), .val (.int az), .val (.int pp), .val (.int ff), .val (.int (Int32.ofNat ne)), .unset, .unset, .unset, .unset, .unset, .unset, .unset] [(.int ff), (.int az), (.int zz), (.int pp), (.int (43 : Int32)), (.int (43 : Int32)), (.ref b7), (.ref b7)])) _
    refine XS.lloadN X136.here hx rfl (hb hby at_830) rfl ?_
    show Steps p.tables e below (T136.setTop (mkF m 831 #[.val (.int vlay), .val (.int vend), .val (.int vsc), .val (.long vbits), .second, .val (.int zz), .val (.int az), .val (.int pp), .val (.int ff), .val (.int (Int32.ofNat ne)), .unset, .unset, .unset, .unset, .unset, .unset, .unset] [(.long vbits), (.int ff), (.int az), (.int zz), (.int pp), (.int (43 : Int32)), (.int (43 : Int32)), (.ref b7), (.ref b7)])) _
    refine st137 _ ?_
    show Steps p.tables e below (T137.setTop (mkF m 834 #[.val (.int vlay), .val (.int vend), .val (.int vsc), .val (.long vbits), .second, .val (.int zz), .val (.int az), .val (.int pp), .val (.int ff), .val (.int (Int32.ofNat ne)), .unset, .unset, .unset, .unset, .unset, .unset, .unset] [(.int (own_ch (43 : Int32) pp zz az ff vbits)), (.int (43 : Int32)), (.ref b7), (.ref b7)])) _
    refine st139 _ ?_
    show Steps p.tables e below (T139.setTop (mkF m 835 #[.val (.int vlay), .val (.int vend), .val (.int vsc), .val (.long vbits), .second, .val (.int zz), .val (.int az), .val (.int pp), .val (.int ff), .val (.int (Int32.ofNat ne)), .unset, .unset, .unset, .unset, .unset, .unset, .unset] [(.ref b7)])) _
    refine XS.astore X139.here hx rfl (hb hby at_835) rfl rfl (l' := #[.val (.int vlay), .val (.int vend), .val (.int vsc), .val (.long vbits), .second, .val (.int zz), .val (.int az), .val (.int pp), .val (.int ff), .val (.int (Int32.ofNat ne)), .val (.ref b7), .unset, .unset, .unset, .unset, .unset, .unset]) rfl ?_
    show Steps p.tables e below (T139.setTop (mkF m 837 #[.val (.int vlay), .val (.int vend), .val (.int vsc), .val (.long vbits), .second, .val (.int zz), .val (.int az), .val (.int pp), .val (.int ff), .val (.int (Int32.ofNat ne)), .val (.ref b7), .unset, .unset, .unset, .unset, .unset, .unset] [])) _
    refine st140 _ ?_
    show Steps p.tables e below (T140.setTop (mkF m 840 #[.val (.int vlay), .val (.int vend), .val (.int vsc), .val (.long vbits), .second, .val (.int zz), .val (.int az), .val (.int pp), .val (.int ff), .val (.int (Int32.ofNat ne)), .val (.ref b7), .unset, .unset, .unset, .unset, .unset, .unset] [(.ref b140)])) _
    refine XS.dup X140.here hx rfl (hb hby at_840) rfl rfl ?_
    show Steps p.tables e below (T140.setTop (mkF m 841 #[.val (.int vlay), .val (.int vend), .val (.int vsc), .val (.long vbits), .second, .val (.int zz), .val (.int az), .val (.int pp), .val (.int ff), .val (.int (Int32.ofNat ne)), .val (.ref b7), .unset, .unset, .unset, .unset, .unset, .unset] [(.ref b140), (.ref b140)])) _
    refine XS.aload X140.here hx rfl (hb hby at_841) rfl rfl ?_
    show Steps p.tables e below (T140.setTop (mkF m 843 #[.val (.int vlay), .val (.int vend), .val (.int vsc), .val (.long vbits), .second, .val (.int zz), .val (.int az), .val (.int pp), .val (.int ff), .val (.int (Int32.ofNat ne)), .val (.ref b7), .unset, .unset, .unset, .unset, .unset, .unset] [(.ref b7), (.ref b140), (.ref b140)])) _
    refine st143.trans ?_
    show Steps p.tables e below (T143.setTop (mkF m 846 #[.val (.int vlay), .val (.int vend), .val (.int vsc), .val (.long vbits), .second, .val (.int zz), .val (.int az), .val (.int pp), .val (.int ff), .val (.int (Int32.ofNat ne)), .val (.ref b7), .unset, .unset, .unset, .unset, .unset, .unset] [(.ref b140)])) _
    refine XS.astore X143.here hx rfl (hb hby at_846) rfl rfl (l' := #[.val (.int vlay), .val (.int vend), .val (.int vsc), .val (.long vbits), .second, .val (.int zz), .val (.int az), .val (.int pp), .val (.int ff), .val (.int (Int32.ofNat ne)), .val (.ref b7), .val (.ref b140), .unset, .unset, .unset, .unset, .unset]) rfl ?_
    show Steps p.tables e below (T143.setTop (mkF m 848 #[.val (.int vlay), .val (.int vend), .val (.int vsc), .val (.long vbits), .second, .val (.int zz), .val (.int az), .val (.int pp), .val (.int ff), .val (.int (Int32.ofNat ne)), .val (.ref b7), .val (.ref b140), .unset, .unset, .unset, .unset, .unset] [])) _
    refine st146 _ ?_
    show Steps p.tables e below (T146.setTop (mkF m 851 #[.val (.int vlay), .val (.int vend), .val (.int vsc), .val (.long vbits), .second, .val (.int zz), .val (.int az), .val (.int pp), .val (.int ff), .val (.int (Int32.ofNat ne)), .val (.ref b7), .val (.ref b140), .unset, .unset, .unset, .unset, .unset] [(.ref b146)])) _
    refine XS.dup X146.here hx rfl (hb hby at_851) rfl rfl ?_
    show Steps p.tables e below (T146.setTop (mkF m 852 #[.val (.int vlay), .val (.int vend), .val (.int vsc), .val (.long vbits), .second, .val (.int zz), .val (.int az), .val (.int pp), .val (.int ff), .val (.int (Int32.ofNat ne)), .val (.ref b7), .val (.ref b140), .unset, .unset, .unset, .unset, .unset] [(.ref b146), (.ref b146)])) _
    refine st155.trans ?_
    show Steps p.tables e below (T155.setTop (mkF m 855 #[.val (.int vlay), .val (.int vend), .val (.int vsc), .val (.long vbits), .second, .val (.int zz), .val (.int az), .val (.int pp), .val (.int ff), .val (.int (Int32.ofNat ne)), .val (.ref b7), .val (.ref b140), .unset, .unset, .unset, .unset, .unset] [(.ref b146)])) _
    refine XS.astore X155.here hx rfl (hb hby at_855) rfl rfl (l' := #[.val (.int vlay), .val (.int vend), .val (.int vsc), .val (.long vbits), .second, .val (.int zz), .val (.int az), .val (.int pp), .val (.int ff), .val (.int (Int32.ofNat ne)), .val (.ref b7), .val (.ref b140), .val (.ref b146), .unset, .unset, .unset, .unset]) rfl ?_
    show Steps p.tables e below (T155.setTop (mkF m 857 #[.val (.int vlay), .val (.int vend), .val (.int vsc), .val (.long vbits), .second, .val (.int zz), .val (.int az), .val (.int pp), .val (.int ff), .val (.int (Int32.ofNat ne)), .val (.ref b7), .val (.ref b140), .val (.ref b146), .unset, .unset, .unset, .unset] [])) _
    refine XS.aload X155.here hx rfl (hb hby at_857) rfl rfl ?_
    show Steps p.tables e below (T155.setTop (mkF m 859 #[.val (.int vlay), .val (.int vend), .val (.int vsc), .val (.long vbits), .second, .val (.int zz), .val (.int az), .val (.int pp), .val (.int ff), .val (.int (Int32.ofNat ne)), .val (.ref b7), .val (.ref b140), .val (.ref b146), .unset, .unset, .unset, .unset] [(.ref b146)])) _
    refine XS.aload X155.here hx rfl (hb hby at_859) rfl rfl ?_
    show Steps p.tables e below (T155.setTop (mkF m 861 #[.val (.int vlay), .val (.int vend), .val (.int vsc), .val (.long vbits), .second, .val (.int zz), .val (.int az), .val (.int pp), .val (.int ff), .val (.int (Int32.ofNat ne)), .val (.ref b7), .val (.ref b140), .val (.ref b146), .unset, .unset, .unset, .unset] [(.ref b140), (.ref b146)])) _
    refine XS.iload X155.here hx rfl (hb hby at_861) rfl ?_
    show Steps p.tables e below (T155.setTop (mkF m 863 #[.val (.int vlay), .val (.int vend), .val (.int vsc), .val (.long vbits), .second, .val (.int zz), .val (.int az), .val (.int pp), .val (.int ff), .val (.int (Int32.ofNat ne)), .val (.ref b7), .val (.ref b140), .val (.ref b146), .unset, .unset, .unset, .unset] [(.int (Int32.ofNat ne)), (.ref b140), (.ref b146)])) _
    refine XS.iloadN X155.here hx rfl (hb hby at_863) rfl ?_
    show Steps p.tables e below (T155.setTop (mkF m 864 #[.val (.int vlay), .val (.int vend), .val (.int vsc), .val (.long vbits), .second, .val (.int zz), .val (.int az), .val (.int pp), .val (.int ff), .val (.int (Int32.ofNat ne)), .val (.ref b7), .val (.ref b140), .val (.ref b146), .unset, .unset, .unset, .unset] [(.int vsc), (.int (Int32.ofNat ne)), (.ref b140), (.ref b146)])) _
    refine st156.trans ?_
    show Steps p.tables e below (T156.setTop (mkF m 867 #[.val (.int vlay), .val (.int vend), .val (.int vsc), .val (.long vbits), .second, .val (.int zz), .val (.int az), .val (.int pp), .val (.int ff), .val (.int (Int32.ofNat ne)), .val (.ref b7), .val (.ref b140), .val (.ref b146), .unset, .unset, .unset, .unset] [])) _
    refine XS.aload X156.here hx rfl (hb hby at_867) rfl rfl ?_
    show Steps p.tables e below (T156.setTop (mkF m 869 #[.val (.int vlay), .val (.int vend), .val (.int vsc), .val (.long vbits), .second, .val (.int zz), .val (.int az), .val (.int pp), .val (.int ff), .val (.int (Int32.ofNat ne)), .val (.ref b7), .val (.ref b140), .val (.ref b146), .unset, .unset, .unset, .unset] [(.ref b146)])) _
    refine st163.trans ?_
    show Steps p.tables e below (T163.setTop (mkF m 872 #[.val (.int vlay), .val (.int vend), .val (.int vsc), .val (.long vbits), .second, .val (.int zz), .val (.int az), .val (.int pp), .val (.int ff), .val (.int (Int32.ofNat ne)), .val (.ref b7), .val (.ref b140), .val (.ref b146), .unset, .unset, .unset, .unset] [(.int (own_two b146 (Int32.ofNat (own_rdk (own_cs (own_f pp zz az ff vbits)) ne 0 0)) vsc))])) _
    refine XS.istore X163.here hx rfl (hb hby at_872) rfl (l' := #[.val (.int vlay), .val (.int vend), .val (.int vsc), .val (.long vbits), .second, .val (.int zz), .val (.int az), .val (.int pp), .val (.int ff), .val (.int (Int32.ofNat ne)), .val (.ref b7), .val (.ref b140), .val (.ref b146), .val (.int (own_two b146 (Int32.ofNat (own_rdk (own_cs (own_f pp zz az ff vbits)) ne 0 0)) vsc)), .unset, .unset, .unset]) rfl ?_
    show Steps p.tables e below (T163.setTop (mkF m 874 #[.val (.int vlay), .val (.int vend), .val (.int vsc), .val (.long vbits), .second, .val (.int zz), .val (.int az), .val (.int pp), .val (.int ff), .val (.int (Int32.ofNat ne)), .val (.ref b7), .val (.ref b140), .val (.ref b146), .val (.int (own_two b146 (Int32.ofNat (own_rdk (own_cs (own_f pp zz az ff vbits)) ne 0 0)) vsc)), .unset, .unset, .unset] [])) _
    refine XS.iload X163.here hx rfl (hb hby at_874) rfl ?_
    show Steps p.tables e below (T163.setTop (mkF m 876 #[.val (.int vlay), .val (.int vend), .val (.int vsc), .val (.long vbits), .second, .val (.int zz), .val (.int az), .val (.int pp), .val (.int ff), .val (.int (Int32.ofNat ne)), .val (.ref b7), .val (.ref b140), .val (.ref b146), .val (.int (own_two b146 (Int32.ofNat (own_rdk (own_cs (own_f pp zz az ff vbits)) ne 0 0)) vsc)), .unset, .unset, .unset] [(.int pp)])) _
    refine XS.iload X163.here hx rfl (hb hby at_876) rfl ?_
    exact kt
  obtain ⟨T165, L165, X165, e165, N165, pre165⟩ : ∃ (Tm : State) (Lm : List Loc), Stand p l e room_1 s m #[(.int vlay), (.int vend), (.int vsc), (.long vbits)] below meth c Tm Lm 4 96 ∧ Tm.heap = T156.heap ∧ Fr n0 Lm ∧ ∀ t, Steps p.tables e below (Tm.setTop (mkF m 890 #[.val (.int vlay), .val (.int vend), .val (.int vsc), .val (.long vbits), .second, .val (.int zz), .val (.int az), .val (.int pp), .val (.int ff), .val (.int (Int32.ofNat ne)), .val (.ref b7), .val (.ref b140), .val (.ref b146), .val (.int (own_two b146 (Int32.ofNat (own_rdk (own_cs (own_f pp zz az ff vbits)) ne 0 0)) vsc)), .unset, .unset, .unset] [(.int (if pp < (Int32.ofNat ne) then ((Int32.ofNat ne) - (1 : Int32)) else (Int32.ofNat ne)))])) t → Steps p.tables e below (s₁.setTop (entryFrame m #[(.int vlay), (.int vend), (.int vsc), (.long vbits)] maxLocals)) t := by
    by_cases hc166 : pp < (Int32.ofNat ne)
    ·
      have pre167 : ∀ t, Steps p.tables e below (T163.setTop (mkF m 890 #[.val (.int vlay), .val (.int vend), .val (.int vsc), .val (.long vbits), .second, .val (.int zz), .val (.int az), .val (.int pp), .val (.int ff), .val (.int (Int32.ofNat ne)), .val (.ref b7), .val (.ref b140), .val (.ref b146), .val (.int (own_two b146 (Int32.ofNat (own_rdk (own_cs (own_f pp zz az ff vbits)) ne 0 0)) vsc)), .unset, .unset, .unset] [(.int ((Int32.ofNat ne) - (1 : Int32)))])) t → Steps p.tables e below (s₁.setTop (entryFrame m #[(.int vlay), (.int vend), (.int vsc), (.long vbits)] maxLocals)) t := by
        intro t kt
        refine pre164 t ?_
        show Steps p.tables e below (T163.setTop (mkF m 878 #[.val (.int vlay), .val (.int vend), .val (.int vsc), .val (.long vbits), .second, .val (.int zz), .val (.int az), .val (.int pp), .val (.int ff), .val (.int (Int32.ofNat ne)), .val (.ref b7), .val (.ref b140), .val (.ref b146), .val (.int (own_two b146 (Int32.ofNat (own_rdk (own_cs (own_f pp zz az ff vbits)) ne 0 0)) vsc)), .unset, .unset, .unset] [(.int (Int32.ofNat ne)), (.int pp)])) _
        refine XS.icmpNo X163.here hx rfl (hb hby at_878) rfl (tlt (hc166 : pp < (Int32.ofNat ne))).2.1 ?_
        show Steps p.tables e below (T163.setTop (mkF m 881 #[.val (.int vlay), .val (.int vend), .val (.int vsc), .val (.long vbits), .second, .val (.int zz), .val (.int az), .val (.int pp), .val (.int ff), .val (.int (Int32.ofNat ne)), .val (.ref b7), .val (.ref b140), .val (.ref b146), .val (.int (own_two b146 (Int32.ofNat (own_rdk (own_cs (own_f pp zz az ff vbits)) ne 0 0)) vsc)), .unset, .unset, .unset] [])) _
        refine XS.iload X163.here hx rfl (hb hby at_881) rfl ?_
        show Steps p.tables e below (T163.setTop (mkF m 883 #[.val (.int vlay), .val (.int vend), .val (.int vsc), .val (.long vbits), .second, .val (.int zz), .val (.int az), .val (.int pp), .val (.int ff), .val (.int (Int32.ofNat ne)), .val (.ref b7), .val (.ref b140), .val (.ref b146), .val (.int (own_two b146 (Int32.ofNat (own_rdk (own_cs (own_f pp zz az ff vbits)) ne 0 0)) vsc)), .unset, .unset, .unset] [(.int (Int32.ofNat ne))])) _
        refine XS.iconst X163.here hx rfl (hb hby at_883) ?_
        show Steps p.tables e below (T163.setTop (mkF m 884 #[.val (.int vlay), .val (.int vend), .val (.int vsc), .val (.long vbits), .second, .val (.int zz), .val (.int az), .val (.int pp), .val (.int ff), .val (.int (Int32.ofNat ne)), .val (.ref b7), .val (.ref b140), .val (.ref b146), .val (.int (own_two b146 (Int32.ofNat (own_rdk (own_cs (own_f pp zz az ff vbits)) ne 0 0)) vsc)), .unset, .unset, .unset] [(.int (1 : Int32)), (.int (Int32.ofNat ne))])) _
        refine XS.isub X163.here hx rfl (hb hby at_884) rfl ?_
        show Steps p.tables e below (T163.setTop (mkF m 885 #[.val (.int vlay), .val (.int vend), .val (.int vsc), .val (.long vbits), .second, .val (.int zz), .val (.int az), .val (.int pp), .val (.int ff), .val (.int (Int32.ofNat ne)), .val (.ref b7), .val (.ref b140), .val (.ref b146), .val (.int (own_two b146 (Int32.ofNat (own_rdk (own_cs (own_f pp zz az ff vbits)) ne 0 0)) vsc)), .unset, .unset, .unset] [(.int ((Int32.ofNat ne) - (1 : Int32)))])) _
        refine XS.goto X163.here hx rfl (pc0 := 885) (pc' := 890) rfl (hb hby at_885) (by decide) (by decide) ?_
        exact kt
      exact ⟨T163, _, X163, e163q, N163, fun t kt => by
        simp only [if_pos hc166] at kt
        exact pre167 t kt⟩
    ·
      have pre168 : ∀ t, Steps p.tables e below (T163.setTop (mkF m 890 #[.val (.int vlay), .val (.int vend), .val (.int vsc), .val (.long vbits), .second, .val (.int zz), .val (.int az), .val (.int pp), .val (.int ff), .val (.int (Int32.ofNat ne)), .val (.ref b7), .val (.ref b140), .val (.ref b146), .val (.int (own_two b146 (Int32.ofNat (own_rdk (own_cs (own_f pp zz az ff vbits)) ne 0 0)) vsc)), .unset, .unset, .unset] [(.int (Int32.ofNat ne))])) t → Steps p.tables e below (s₁.setTop (entryFrame m #[(.int vlay), (.int vend), (.int vsc), (.long vbits)] maxLocals)) t := by
        intro t kt
        refine pre164 t ?_
        show Steps p.tables e below (T163.setTop (mkF m 878 #[.val (.int vlay), .val (.int vend), .val (.int vsc), .val (.long vbits), .second, .val (.int zz), .val (.int az), .val (.int pp), .val (.int ff), .val (.int (Int32.ofNat ne)), .val (.ref b7), .val (.ref b140), .val (.ref b146), .val (.int (own_two b146 (Int32.ofNat (own_rdk (own_cs (own_f pp zz az ff vbits)) ne 0 0)) vsc)), .unset, .unset, .unset] [(.int (Int32.ofNat ne)), (.int pp)])) _
        refine XS.icmpYes X163.here hx rfl (pc0 := 878) (pc' := 888) rfl (hb hby at_878) rfl (flt (hc166 : ¬ (pp < (Int32.ofNat ne)))).2.1 (by decide) (by decide) ?_
        show Steps p.tables e below (T163.setTop (mkF m 888 #[.val (.int vlay), .val (.int vend), .val (.int vsc), .val (.long vbits), .second, .val (.int zz), .val (.int az), .val (.int pp), .val (.int ff), .val (.int (Int32.ofNat ne)), .val (.ref b7), .val (.ref b140), .val (.ref b146), .val (.int (own_two b146 (Int32.ofNat (own_rdk (own_cs (own_f pp zz az ff vbits)) ne 0 0)) vsc)), .unset, .unset, .unset] [])) _
        refine XS.iload X163.here hx rfl (hb hby at_888) rfl ?_
        exact kt
      exact ⟨T163, _, X163, e163q, N163, fun t kt => by
        simp only [if_neg hc166] at kt
        exact pre168 t kt⟩
  have pre169 : ∀ t, Steps p.tables e below (T165.setTop (mkF m 894 #[.val (.int vlay), .val (.int vend), .val (.int vsc), .val (.long vbits), .second, .val (.int zz), .val (.int az), .val (.int pp), .val (.int ff), .val (.int (Int32.ofNat ne)), .val (.ref b7), .val (.ref b140), .val (.ref b146), .val (.int (own_two b146 (Int32.ofNat (own_rdk (own_cs (own_f pp zz az ff vbits)) ne 0 0)) vsc)), .val (.int (if pp < (Int32.ofNat ne) then ((Int32.ofNat ne) - (1 : Int32)) else (Int32.ofNat ne))), .unset, .unset] [(.int az)])) t → Steps p.tables e below (s₁.setTop (entryFrame m #[(.int vlay), (.int vend), (.int vsc), (.long vbits)] maxLocals)) t := by
    intro t kt
    refine pre165 t ?_
    show Steps p.tables e below (T165.setTop (mkF m 890 #[.val (.int vlay), .val (.int vend), .val (.int vsc), .val (.long vbits), .second, .val (.int zz), .val (.int az), .val (.int pp), .val (.int ff), .val (.int (Int32.ofNat ne)), .val (.ref b7), .val (.ref b140), .val (.ref b146), .val (.int (own_two b146 (Int32.ofNat (own_rdk (own_cs (own_f pp zz az ff vbits)) ne 0 0)) vsc)), .unset, .unset, .unset] [(.int (if pp < (Int32.ofNat ne) then ((Int32.ofNat ne) - (1 : Int32)) else (Int32.ofNat ne)))])) _
    refine XS.istore X165.here hx rfl (hb hby at_890) rfl (l' := #[.val (.int vlay), .val (.int vend), .val (.int vsc), .val (.long vbits), .second, .val (.int zz), .val (.int az), .val (.int pp), .val (.int ff), .val (.int (Int32.ofNat ne)), .val (.ref b7), .val (.ref b140), .val (.ref b146), .val (.int (own_two b146 (Int32.ofNat (own_rdk (own_cs (own_f pp zz az ff vbits)) ne 0 0)) vsc)), .val (.int (if pp < (Int32.ofNat ne) then ((Int32.ofNat ne) - (1 : Int32)) else (Int32.ofNat ne))), .unset, .unset]) rfl ?_
    show Steps p.tables e below (T165.setTop (mkF m 892 #[.val (.int vlay), .val (.int vend), .val (.int vsc), .val (.long vbits), .second, .val (.int zz), .val (.int az), .val (.int pp), .val (.int ff), .val (.int (Int32.ofNat ne)), .val (.ref b7), .val (.ref b140), .val (.ref b146), .val (.int (own_two b146 (Int32.ofNat (own_rdk (own_cs (own_f pp zz az ff vbits)) ne 0 0)) vsc)), .val (.int (if pp < (Int32.ofNat ne) then ((Int32.ofNat ne) - (1 : Int32)) else (Int32.ofNat ne))), .unset, .unset] [])) _
    refine XS.iload X165.here hx rfl (hb hby at_892) rfl ?_
    exact kt
  obtain ⟨T170, L170, X170, e170, N170, pre170⟩ : ∃ (Tm : State) (Lm : List Loc), Stand p l e room_1 s m #[(.int vlay), (.int vend), (.int vsc), (.long vbits)] below meth c Tm Lm 4 96 ∧ Tm.heap = T156.heap ∧ Fr n0 Lm ∧ ∀ t, Steps p.tables e below (Tm.setTop (mkF m 910 #[.val (.int vlay), .val (.int vend), .val (.int vsc), .val (.long vbits), .second, .val (.int zz), .val (.int az), .val (.int pp), .val (.int ff), .val (.int (Int32.ofNat ne)), .val (.ref b7), .val (.ref b140), .val (.ref b146), .val (.int (own_two b146 (Int32.ofNat (own_rdk (own_cs (own_f pp zz az ff vbits)) ne 0 0)) vsc)), .val (.int (if pp < (Int32.ofNat ne) then ((Int32.ofNat ne) - (1 : Int32)) else (Int32.ofNat ne))), .unset, .unset] [(.int (if az = (0 : Int32) then (own_max (0 : Int32) ((if pp < (Int32.ofNat ne) then ((Int32.ofNat ne) - (1 : Int32)) else (Int32.ofNat ne)) - zz)) else (0 : Int32)))])) t → Steps p.tables e below (s₁.setTop (entryFrame m #[(.int vlay), (.int vend), (.int vsc), (.long vbits)] maxLocals)) t := by
    by_cases hc171 : az = (0 : Int32)
    ·
      obtain ⟨_, _, ⟨T172, L172, k172, n172⟩, -, X172, ⟨Lc172, hQ172, l172, y172, z172⟩, st172⟩ := Jvm.LawKit.callS X165 hx (y := (⟨"java/lang/Math", "max", "(II)I"⟩ : MethodName)) hown (mvT hZ (hw _ (List.mem_of_getElem? (i := 90) rfl))) (mvT hZ (hw _ (List.mem_of_getElem? (i := 91) rfl))) (mvT hZ (hw _ (List.mem_of_getElem? (i := 92) rfl))) (mvT hZ (hw _ (List.mem_of_getElem? (i := 93) rfl))) (by decide) (backOf (W := 0) (rm17 l Z a0 hw [] (0 : Int32) ((if pp < (Int32.ofNat ne) then ((Int32.ofNat ne) - (1 : Int32)) else (Int32.ofNat ne)) - zz)  T156.heap n0 Z156 ) hZ (hw _ (List.mem_of_getElem? (i := 93) rfl)) (hw _ (List.mem_of_getElem? (i := 92) rfl)) (by decide) (by decide)) (g := (mkF m 907 #[.val (.int vlay), .val (.int vend), .val (.int vsc), .val (.long vbits), .second, .val (.int zz), .val (.int az), .val (.int pp), .val (.int ff), .val (.int (Int32.ofNat ne)), .val (.ref b7), .val (.ref b140), .val (.ref b146), .val (.int (own_two b146 (Int32.ofNat (own_rdk (own_cs (own_f pp zz az ff vbits)) ne 0 0)) vsc)), .val (.int (if pp < (Int32.ofNat ne) then ((Int32.ofNat ne) - (1 : Int32)) else (Int32.ofNat ne))), .unset, .unset] [(.int ((if pp < (Int32.ofNat ne) then ((Int32.ofNat ne) - (1 : Int32)) else (Int32.ofNat ne)) - zz)), (.int (0 : Int32))])) rfl (by rw [hml]; rfl) (argsL := [(.int (0 : Int32)), (.int ((if pp < (Int32.ofNat ne) then ((Int32.ofNat ne) - (1 : Int32)) else (Int32.ofNat ne)) - zz))]) (rest := []) (lenOf pd_9 rfl) rfl (by show 2 * 0 + _ ≤ _; exact Nat.le_of_eq rfl) (hb hby at_907) (fun _ _ => ⟨rfl, e165, (by decide : 4 + 0 ≤ _), (by decide : 96 + 0 ≤ _)⟩)
      dsimp only [Pt.U, Pt.locs, Pt.cells, Pt.slots] at X172 l172 y172 z172 st172 hQ172
      obtain rfl : k172 = 4 := y172; obtain rfl : n172 = 96 := z172
      obtain ⟨rfl, N172q, e172q⟩ := hQ172
      have N172 : Fr n0 L172 := Eq.mpr (congrArg (Fr n0) l172) (Fr.app N165 N172q)
      have pre173 : ∀ t, Steps p.tables e below (T172.setTop (mkF m 910 #[.val (.int vlay), .val (.int vend), .val (.int vsc), .val (.long vbits), .second, .val (.int zz), .val (.int az), .val (.int pp), .val (.int ff), .val (.int (Int32.ofNat ne)), .val (.ref b7), .val (.ref b140), .val (.ref b146), .val (.int (own_two b146 (Int32.ofNat (own_rdk (own_cs (own_f pp zz az ff vbits)) ne 0 0)) vsc)), .val (.int (if pp < (Int32.ofNat ne) then ((Int32.ofNat ne) - (1 : Int32)) else (Int32.ofNat ne))), .unset, .unset] [(.int (own_max (0 : Int32) ((if pp < (Int32.ofNat ne) then ((Int32.ofNat ne) - (1 : Int32)) else (Int32.ofNat ne)) - zz)))])) t → Steps p.tables e below (s₁.setTop (entryFrame m #[(.int vlay), (.int vend), (.int vsc), (.long vbits)] maxLocals)) t := by
        intro t kt
        refine pre169 t ?_
        show Steps p.tables e below (T165.setTop (mkF m 894 #[.val (.int vlay), .val (.int vend), .val (.int vsc), .val (.long vbits), .second, .val (.int zz), .val (.int az), .val (.int pp), .val (.int ff), .val (.int (Int32.ofNat ne)), .val (.ref b7), .val (.ref b140), .val (.ref b146), .val (.int (own_two b146 (Int32.ofNat (own_rdk (own_cs (own_f pp zz az ff vbits)) ne 0 0)) vsc)), .val (.int (if pp < (Int32.ofNat ne) then ((Int32.ofNat ne) - (1 : Int32)) else (Int32.ofNat ne))), .unset, .unset] [(.int az)])) _
        refine XS.ifYes X165.here hx rfl (pc0 := 894) (pc' := 901) rfl (hb hby at_894) rfl ((if0 _ _).trans (teq (hc171 : az = (0 : Int32))).1) (by decide) (by decide) ?_
        show Steps p.tables e below (T165.setTop (mkF m 901 #[.val (.int vlay), .val (.int vend), .val (.int vsc), .val (.long vbits), .second, .val (.int zz), .val (.int az), .val (.int pp), .val (.int ff), .val (.int (Int32.ofNat ne)), .val (.ref b7), .val (.ref b140), .val (.ref b146), .val (.int (own_two b146 (Int32.ofNat (own_rdk (own_cs (own_f pp zz az ff vbits)) ne 0 0)) vsc)), .val (.int (if pp < (Int32.ofNat ne) then ((Int32.ofNat ne) - (1 : Int32)) else (Int32.ofNat ne))), .unset, .unset] [])) _
        refine XS.iconst X165.here hx rfl (hb hby at_901) ?_
        show Steps p.tables e below (T165.setTop (mkF m 902 #[.val (.int vlay), .val (.int vend), .val (.int vsc), .val (.long vbits), .second, .val (.int zz), .val (.int az), .val (.int pp), .val (.int ff), .val (.int (Int32.ofNat ne)), .val (.ref b7), .val (.ref b140), .val (.ref b146), .val (.int (own_two b146 (Int32.ofNat (own_rdk (own_cs (own_f pp zz az ff vbits)) ne 0 0)) vsc)), .val (.int (if pp < (Int32.ofNat ne) then ((Int32.ofNat ne) - (1 : Int32)) else (Int32.ofNat ne))), .unset, .unset] [(.int (0 : Int32))])) _
        refine XS.iload X165.here hx rfl (hb hby at_902) rfl ?_
        show Steps p.tables e below (T165.setTop (mkF m 904 #[.val (.int vlay), .val (.int vend), .val (.int vsc), .val (.long vbits), .second, .val (.int zz), .val (.int az), .val (.int pp), .val (.int ff), .val (.int (Int32.ofNat ne)), .val (.ref b7), .val (.ref b140), .val (.ref b146), .val (.int (own_two b146 (Int32.ofNat (own_rdk (own_cs (own_f pp zz az ff vbits)) ne 0 0)) vsc)), .val (.int (if pp < (Int32.ofNat ne) then ((Int32.ofNat ne) - (1 : Int32)) else (Int32.ofNat ne))), .unset, .unset] [(.int (if pp < (Int32.ofNat ne) then ((Int32.ofNat ne) - (1 : Int32)) else (Int32.ofNat ne))), (.int (0 : Int32))])) _
        refine XS.iload X165.here hx rfl (hb hby at_904) rfl ?_
        show Steps p.tables e below (T165.setTop (mkF m 906 #[.val (.int vlay), .val (.int vend), .val (.int vsc), .val (.long vbits), .second, .val (.int zz), .val (.int az), .val (.int pp), .val (.int ff), .val (.int (Int32.ofNat ne)), .val (.ref b7), .val (.ref b140), .val (.ref b146), .val (.int (own_two b146 (Int32.ofNat (own_rdk (own_cs (own_f pp zz az ff vbits)) ne 0 0)) vsc)), .val (.int (if pp < (Int32.ofNat ne) then ((Int32.ofNat ne) - (1 : Int32)) else (Int32.ofNat ne))), .unset, .unset] [(.int zz), (.int (if pp < (Int32.ofNat ne) then ((Int32.ofNat ne) - (1 : Int32)) else (Int32.ofNat ne))), (.int (0 : Int32))])) _
        refine XS.isub X165.here hx rfl (hb hby at_906) rfl ?_
        show Steps p.tables e below (T165.setTop (mkF m 907 #[.val (.int vlay), .val (.int vend), .val (.int vsc), .val (.long vbits), .second, .val (.int zz), .val (.int az), .val (.int pp), .val (.int ff), .val (.int (Int32.ofNat ne)), .val (.ref b7), .val (.ref b140), .val (.ref b146), .val (.int (own_two b146 (Int32.ofNat (own_rdk (own_cs (own_f pp zz az ff vbits)) ne 0 0)) vsc)), .val (.int (if pp < (Int32.ofNat ne) then ((Int32.ofNat ne) - (1 : Int32)) else (Int32.ofNat ne))), .unset, .unset] [(.int ((if pp < (Int32.ofNat ne) then ((Int32.ofNat ne) - (1 : Int32)) else (Int32.ofNat ne)) - zz)), (.int (0 : Int32))])) _
        refine st172 _ ?_
        exact kt
      exact ⟨T172, _, X172, e172q, N172, fun t kt => by
        simp only [if_pos hc171] at kt
        exact pre173 t kt⟩
    ·
      have pre174 : ∀ t, Steps p.tables e below (T165.setTop (mkF m 910 #[.val (.int vlay), .val (.int vend), .val (.int vsc), .val (.long vbits), .second, .val (.int zz), .val (.int az), .val (.int pp), .val (.int ff), .val (.int (Int32.ofNat ne)), .val (.ref b7), .val (.ref b140), .val (.ref b146), .val (.int (own_two b146 (Int32.ofNat (own_rdk (own_cs (own_f pp zz az ff vbits)) ne 0 0)) vsc)), .val (.int (if pp < (Int32.ofNat ne) then ((Int32.ofNat ne) - (1 : Int32)) else (Int32.ofNat ne))), .unset, .unset] [(.int (0 : Int32))])) t → Steps p.tables e below (s₁.setTop (entryFrame m #[(.int vlay), (.int vend), (.int vsc), (.long vbits)] maxLocals)) t := by
        intro t kt
        refine pre169 t ?_
        show Steps p.tables e below (T165.setTop (mkF m 894 #[.val (.int vlay), .val (.int vend), .val (.int vsc), .val (.long vbits), .second, .val (.int zz), .val (.int az), .val (.int pp), .val (.int ff), .val (.int (Int32.ofNat ne)), .val (.ref b7), .val (.ref b140), .val (.ref b146), .val (.int (own_two b146 (Int32.ofNat (own_rdk (own_cs (own_f pp zz az ff vbits)) ne 0 0)) vsc)), .val (.int (if pp < (Int32.ofNat ne) then ((Int32.ofNat ne) - (1 : Int32)) else (Int32.ofNat ne))), .unset, .unset] [(.int az)])) _
        refine XS.ifNo X165.here hx rfl (hb hby at_894) rfl ((if0 _ _).trans (feq (hc171 : ¬ (az = (0 : Int32)))).1) ?_
        show Steps p.tables e below (T165.setTop (mkF m 897 #[.val (.int vlay), .val (.int vend), .val (.int vsc), .val (.long vbits), .second, .val (.int zz), .val (.int az), .val (.int pp), .val (.int ff), .val (.int (Int32.ofNat ne)), .val (.ref b7), .val (.ref b140), .val (.ref b146), .val (.int (own_two b146 (Int32.ofNat (own_rdk (own_cs (own_f pp zz az ff vbits)) ne 0 0)) vsc)), .val (.int (if pp < (Int32.ofNat ne) then ((Int32.ofNat ne) - (1 : Int32)) else (Int32.ofNat ne))), .unset, .unset] [])) _
        refine XS.iconst X165.here hx rfl (hb hby at_897) ?_
        show Steps p.tables e below (T165.setTop (mkF m 898 #[.val (.int vlay), .val (.int vend), .val (.int vsc), .val (.long vbits), .second, .val (.int zz), .val (.int az), .val (.int pp), .val (.int ff), .val (.int (Int32.ofNat ne)), .val (.ref b7), .val (.ref b140), .val (.ref b146), .val (.int (own_two b146 (Int32.ofNat (own_rdk (own_cs (own_f pp zz az ff vbits)) ne 0 0)) vsc)), .val (.int (if pp < (Int32.ofNat ne) then ((Int32.ofNat ne) - (1 : Int32)) else (Int32.ofNat ne))), .unset, .unset] [(.int (0 : Int32))])) _
        refine XS.goto X165.here hx rfl (pc0 := 898) (pc' := 910) rfl (hb hby at_898) (by decide) (by decide) ?_
        exact kt
      exact ⟨T165, _, X165, e165, N165, fun t kt => by
        simp only [if_neg hc171] at kt
        exact pre174 t kt⟩
  have pre175 : ∀ t, Steps p.tables e below (T170.setTop (mkF m 916 #[.val (.int vlay), .val (.int vend), .val (.int vsc), .val (.long vbits), .second, .val (.int zz), .val (.int az), .val (.int pp), .val (.int ff), .val (.int (Int32.ofNat ne)), .val (.ref b7), .val (.ref b140), .val (.ref b146), .val (.int (own_two b146 (Int32.ofNat (own_rdk (own_cs (own_f pp zz az ff vbits)) ne 0 0)) vsc)), .val (.int (if pp < (Int32.ofNat ne) then ((Int32.ofNat ne) - (1 : Int32)) else (Int32.ofNat ne))), .val (.int (if az = (0 : Int32) then (own_max (0 : Int32) ((if pp < (Int32.ofNat ne) then ((Int32.ofNat ne) - (1 : Int32)) else (Int32.ofNat ne)) - zz)) else (0 : Int32))), .unset] [(.int (38 : Int32)), (.int (if az = (0 : Int32) then (own_max (0 : Int32) ((if pp < (Int32.ofNat ne) then ((Int32.ofNat ne) - (1 : Int32)) else (Int32.ofNat ne)) - zz)) else (0 : Int32)))])) t → Steps p.tables e below (s₁.setTop (entryFrame m #[(.int vlay), (.int vend), (.int vsc), (.long vbits)] maxLocals)) t := by
    intro t kt
    refine pre170 t ?_
    show Steps p.tables e below (T170.setTop (mkF m 910 #[.val (.int vlay), .val (.int vend), .val (.int vsc), .val (.long vbits), .second, .val (.int zz), .val (.int az), .val (.int pp), .val (.int ff), .val (.int (Int32.ofNat ne)), .val (.ref b7), .val (.ref b140), .val (.ref b146), .val (.int (own_two b146 (Int32.ofNat (own_rdk (own_cs (own_f pp zz az ff vbits)) ne 0 0)) vsc)), .val (.int (if pp < (Int32.ofNat ne) then ((Int32.ofNat ne) - (1 : Int32)) else (Int32.ofNat ne))), .unset, .unset] [(.int (if az = (0 : Int32) then (own_max (0 : Int32) ((if pp < (Int32.ofNat ne) then ((Int32.ofNat ne) - (1 : Int32)) else (Int32.ofNat ne)) - zz)) else (0 : Int32)))])) _
    refine XS.istore X170.here hx rfl (hb hby at_910) rfl (l' := #[.val (.int vlay), .val (.int vend), .val (.int vsc), .val (.long vbits), .second, .val (.int zz), .val (.int az), .val (.int pp), .val (.int ff), .val (.int (Int32.ofNat ne)), .val (.ref b7), .val (.ref b140), .val (.ref b146), .val (.int (own_two b146 (Int32.ofNat (own_rdk (own_cs (own_f pp zz az ff vbits)) ne 0 0)) vsc)), .val (.int (if pp < (Int32.ofNat ne) then ((Int32.ofNat ne) - (1 : Int32)) else (Int32.ofNat ne))), .val (.int (if az = (0 : Int32) then (own_max (0 : Int32) ((if pp < (Int32.ofNat ne) then ((Int32.ofNat ne) - (1 : Int32)) else (Int32.ofNat ne)) - zz)) else (0 : Int32))), .unset]) rfl ?_
    show Steps p.tables e below (T170.setTop (mkF m 912 #[.val (.int vlay), .val (.int vend), .val (.int vsc), .val (.long vbits), .second, .val (.int zz), .val (.int az), .val (.int pp), .val (.int ff), .val (.int (Int32.ofNat ne)), .val (.ref b7), .val (.ref b140), .val (.ref b146), .val (.int (own_two b146 (Int32.ofNat (own_rdk (own_cs (own_f pp zz az ff vbits)) ne 0 0)) vsc)), .val (.int (if pp < (Int32.ofNat ne) then ((Int32.ofNat ne) - (1 : Int32)) else (Int32.ofNat ne))), .val (.int (if az = (0 : Int32) then (own_max (0 : Int32) ((if pp < (Int32.ofNat ne) then ((Int32.ofNat ne) - (1 : Int32)) else (Int32.ofNat ne)) - zz)) else (0 : Int32))), .unset] [])) _
    refine XS.iload X170.here hx rfl (hb hby at_912) rfl ?_
    show Steps p.tables e below (T170.setTop (mkF m 914 #[.val (.int vlay), .val (.int vend), .val (.int vsc), .val (.long vbits), .second, .val (.int zz), .val (.int az), .val (.int pp), .val (.int ff), .val (.int (Int32.ofNat ne)), .val (.ref b7), .val (.ref b140), .val (.ref b146), .val (.int (own_two b146 (Int32.ofNat (own_rdk (own_cs (own_f pp zz az ff vbits)) ne 0 0)) vsc)), .val (.int (if pp < (Int32.ofNat ne) then ((Int32.ofNat ne) - (1 : Int32)) else (Int32.ofNat ne))), .val (.int (if az = (0 : Int32) then (own_max (0 : Int32) ((if pp < (Int32.ofNat ne) then ((Int32.ofNat ne) - (1 : Int32)) else (Int32.ofNat ne)) - zz)) else (0 : Int32))), .unset] [(.int (if az = (0 : Int32) then (own_max (0 : Int32) ((if pp < (Int32.ofNat ne) then ((Int32.ofNat ne) - (1 : Int32)) else (Int32.ofNat ne)) - zz)) else (0 : Int32)))])) _
    refine XS.bipush X170.here hx rfl (hb hby at_914) ?_
    exact kt
  obtain ⟨T176, L176, X176, e176, N176, pre176⟩ : ∃ (Tm : State) (Lm : List Loc), Stand p l e room_1 s m #[(.int vlay), (.int vend), (.int vsc), (.long vbits)] below meth c Tm Lm 4 96 ∧ Tm.heap = T156.heap ∧ Fr n0 Lm ∧ ∀ t, Steps p.tables e below (Tm.setTop (mkF m 930 #[.val (.int vlay), .val (.int vend), .val (.int vsc), .val (.long vbits), .second, .val (.int zz), .val (.int az), .val (.int pp), .val (.int ff), .val (.int (Int32.ofNat ne)), .val (.ref b7), .val (.ref b140), .val (.ref b146), .val (.int (own_two b146 (Int32.ofNat (own_rdk (own_cs (own_f pp zz az ff vbits)) ne 0 0)) vsc)), .val (.int (if pp < (Int32.ofNat ne) then ((Int32.ofNat ne) - (1 : Int32)) else (Int32.ofNat ne))), .val (.int (if az = (0 : Int32) then (own_max (0 : Int32) ((if pp < (Int32.ofNat ne) then ((Int32.ofNat ne) - (1 : Int32)) else (Int32.ofNat ne)) - zz)) else (0 : Int32))), .unset] [(.int (if (38 : Int32) < (if az = (0 : Int32) then (own_max (0 : Int32) ((if pp < (Int32.ofNat ne) then ((Int32.ofNat ne) - (1 : Int32)) else (Int32.ofNat ne)) - zz)) else (0 : Int32)) then (0 : Int32) else (if (38 : Int32) < vsc then (0 : Int32) else (1 : Int32))))])) t → Steps p.tables e below (s₁.setTop (entryFrame m #[(.int vlay), (.int vend), (.int vsc), (.long vbits)] maxLocals)) t := by
    by_cases hc177 : (38 : Int32) < (if az = (0 : Int32) then (own_max (0 : Int32) ((if pp < (Int32.ofNat ne) then ((Int32.ofNat ne) - (1 : Int32)) else (Int32.ofNat ne)) - zz)) else (0 : Int32))
    ·
      have pre178 : ∀ t, Steps p.tables e below (T170.setTop (mkF m 930 #[.val (.int vlay), .val (.int vend), .val (.int vsc), .val (.long vbits), .second, .val (.int zz), .val (.int az), .val (.int pp), .val (.int ff), .val (.int (Int32.ofNat ne)), .val (.ref b7), .val (.ref b140), .val (.ref b146), .val (.int (own_two b146 (Int32.ofNat (own_rdk (own_cs (own_f pp zz az ff vbits)) ne 0 0)) vsc)), .val (.int (if pp < (Int32.ofNat ne) then ((Int32.ofNat ne) - (1 : Int32)) else (Int32.ofNat ne))), .val (.int (if az = (0 : Int32) then (own_max (0 : Int32) ((if pp < (Int32.ofNat ne) then ((Int32.ofNat ne) - (1 : Int32)) else (Int32.ofNat ne)) - zz)) else (0 : Int32))), .unset] [(.int (0 : Int32))])) t → Steps p.tables e below (s₁.setTop (entryFrame m #[(.int vlay), (.int vend), (.int vsc), (.long vbits)] maxLocals)) t := by
        intro t kt
        refine pre175 t ?_
        show Steps p.tables e below (T170.setTop (mkF m 916 #[.val (.int vlay), .val (.int vend), .val (.int vsc), .val (.long vbits), .second, .val (.int zz), .val (.int az), .val (.int pp), .val (.int ff), .val (.int (Int32.ofNat ne)), .val (.ref b7), .val (.ref b140), .val (.ref b146), .val (.int (own_two b146 (Int32.ofNat (own_rdk (own_cs (own_f pp zz az ff vbits)) ne 0 0)) vsc)), .val (.int (if pp < (Int32.ofNat ne) then ((Int32.ofNat ne) - (1 : Int32)) else (Int32.ofNat ne))), .val (.int (if az = (0 : Int32) then (own_max (0 : Int32) ((if pp < (Int32.ofNat ne) then ((Int32.ofNat ne) - (1 : Int32)) else (Int32.ofNat ne)) - zz)) else (0 : Int32))), .unset] [(.int (38 : Int32)), (.int (if az = (0 : Int32) then (own_max (0 : Int32) ((if pp < (Int32.ofNat ne) then ((Int32.ofNat ne) - (1 : Int32)) else (Int32.ofNat ne)) - zz)) else (0 : Int32)))])) _
        refine XS.icmpYes X170.here hx rfl (pc0 := 916) (pc' := 929) rfl (hb hby at_916) rfl (tlt (hc177 : (38 : Int32) < (if az = (0 : Int32) then (own_max (0 : Int32) ((if pp < (Int32.ofNat ne) then ((Int32.ofNat ne) - (1 : Int32)) else (Int32.ofNat ne)) - zz)) else (0 : Int32)))).2.2.1 (by decide) (by decide) ?_
        show Steps p.tables e below (T170.setTop (mkF m 929 #[.val (.int vlay), .val (.int vend), .val (.int vsc), .val (.long vbits), .second, .val (.int zz), .val (.int az), .val (.int pp), .val (.int ff), .val (.int (Int32.ofNat ne)), .val (.ref b7), .val (.ref b140), .val (.ref b146), .val (.int (own_two b146 (Int32.ofNat (own_rdk (own_cs (own_f pp zz az ff vbits)) ne 0 0)) vsc)), .val (.int (if pp < (Int32.ofNat ne) then ((Int32.ofNat ne) - (1 : Int32)) else (Int32.ofNat ne))), .val (.int (if az = (0 : Int32) then (own_max (0 : Int32) ((if pp < (Int32.ofNat ne) then ((Int32.ofNat ne) - (1 : Int32)) else (Int32.ofNat ne)) - zz)) else (0 : Int32))), .unset] [])) _
        refine XS.iconst X170.here hx rfl (hb hby at_929) ?_
        exact kt
      exact ⟨T170, _, X170, e170, N170, fun t kt => by
        simp only [if_pos hc177] at kt
        exact pre178 t kt⟩
    ·
      have pre179 : ∀ t, Steps p.tables e below (T170.setTop (mkF m 922 #[.val (.int vlay), .val (.int vend), .val (.int vsc), .val (.long vbits), .second, .val (.int zz), .val (.int az), .val (.int pp), .val (.int ff), .val (.int (Int32.ofNat ne)), .val (.ref b7), .val (.ref b140), .val (.ref b146), .val (.int (own_two b146 (Int32.ofNat (own_rdk (own_cs (own_f pp zz az ff vbits)) ne 0 0)) vsc)), .val (.int (if pp < (Int32.ofNat ne) then ((Int32.ofNat ne) - (1 : Int32)) else (Int32.ofNat ne))), .val (.int (if az = (0 : Int32) then (own_max (0 : Int32) ((if pp < (Int32.ofNat ne) then ((Int32.ofNat ne) - (1 : Int32)) else (Int32.ofNat ne)) - zz)) else (0 : Int32))), .unset] [(.int (38 : Int32)), (.int vsc)])) t → Steps p.tables e below (s₁.setTop (entryFrame m #[(.int vlay), (.int vend), (.int vsc), (.long vbits)] maxLocals)) t := by
        intro t kt
        refine pre175 t ?_
        show Steps p.tables e below (T170.setTop (mkF m 916 #[.val (.int vlay), .val (.int vend), .val (.int vsc), .val (.long vbits), .second, .val (.int zz), .val (.int az), .val (.int pp), .val (.int ff), .val (.int (Int32.ofNat ne)), .val (.ref b7), .val (.ref b140), .val (.ref b146), .val (.int (own_two b146 (Int32.ofNat (own_rdk (own_cs (own_f pp zz az ff vbits)) ne 0 0)) vsc)), .val (.int (if pp < (Int32.ofNat ne) then ((Int32.ofNat ne) - (1 : Int32)) else (Int32.ofNat ne))), .val (.int (if az = (0 : Int32) then (own_max (0 : Int32) ((if pp < (Int32.ofNat ne) then ((Int32.ofNat ne) - (1 : Int32)) else (Int32.ofNat ne)) - zz)) else (0 : Int32))), .unset] [(.int (38 : Int32)), (.int (if az = (0 : Int32) then (own_max (0 : Int32) ((if pp < (Int32.ofNat ne) then ((Int32.ofNat ne) - (1 : Int32)) else (Int32.ofNat ne)) - zz)) else (0 : Int32)))])) _
        refine XS.icmpNo X170.here hx rfl (hb hby at_916) rfl (flt (hc177 : ¬ ((38 : Int32) < (if az = (0 : Int32) then (own_max (0 : Int32) ((if pp < (Int32.ofNat ne) then ((Int32.ofNat ne) - (1 : Int32)) else (Int32.ofNat ne)) - zz)) else (0 : Int32))))).2.2.1 ?_
        show Steps p.tables e below (T170.setTop (mkF m 919 #[.val (.int vlay), .val (.int vend), .val (.int vsc), .val (.long vbits), .second, .val (.int zz), .val (.int az), .val (.int pp), .val (.int ff), .val (.int (Int32.ofNat ne)), .val (.ref b7), .val (.ref b140), .val (.ref b146), .val (.int (own_two b146 (Int32.ofNat (own_rdk (own_cs (own_f pp zz az ff vbits)) ne 0 0)) vsc)), .val (.int (if pp < (Int32.ofNat ne) then ((Int32.ofNat ne) - (1 : Int32)) else (Int32.ofNat ne))), .val (.int (if az = (0 : Int32) then (own_max (0 : Int32) ((if pp < (Int32.ofNat ne) then ((Int32.ofNat ne) - (1 : Int32)) else (Int32.ofNat ne)) - zz)) else (0 : Int32))), .unset] [])) _
        refine XS.iloadN X170.here hx rfl (hb hby at_919) rfl ?_
        show Steps p.tables e below (T170.setTop (mkF m 920 #[.val (.int vlay), .val (.int vend), .val (.int vsc), .val (.long vbits), .second, .val (.int zz), .val (.int az), .val (.int pp), .val (.int ff), .val (.int (Int32.ofNat ne)), .val (.ref b7), .val (.ref b140), .val (.ref b146), .val (.int (own_two b146 (Int32.ofNat (own_rdk (own_cs (own_f pp zz az ff vbits)) ne 0 0)) vsc)), .val (.int (if pp < (Int32.ofNat ne) then ((Int32.ofNat ne) - (1 : Int32)) else (Int32.ofNat ne))), .val (.int (if az = (0 : Int32) then (own_max (0 : Int32) ((if pp < (Int32.ofNat ne) then ((Int32.ofNat ne) - (1 : Int32)) else (Int32.ofNat ne)) - zz)) else (0 : Int32))), .unset] [(.int vsc)])) _
        refine XS.bipush X170.here hx rfl (hb hby at_920) ?_
        exact kt
      by_cases hc180 : (38 : Int32) < vsc
      ·
        have pre181 : ∀ t, Steps p.tables e below (T170.setTop (mkF m 930 #[.val (.int vlay), .val (.int vend), .val (.int vsc), .val (.long vbits), .second, .val (.int zz), .val (.int az), .val (.int pp), .val (.int ff), .val (.int (Int32.ofNat ne)), .val (.ref b7), .val (.ref b140), .val (.ref b146), .val (.int (own_two b146 (Int32.ofNat (own_rdk (own_cs (own_f pp zz az ff vbits)) ne 0 0)) vsc)), .val (.int (if pp < (Int32.ofNat ne) then ((Int32.ofNat ne) - (1 : Int32)) else (Int32.ofNat ne))), .val (.int (if az = (0 : Int32) then (own_max (0 : Int32) ((if pp < (Int32.ofNat ne) then ((Int32.ofNat ne) - (1 : Int32)) else (Int32.ofNat ne)) - zz)) else (0 : Int32))), .unset] [(.int (0 : Int32))])) t → Steps p.tables e below (s₁.setTop (entryFrame m #[(.int vlay), (.int vend), (.int vsc), (.long vbits)] maxLocals)) t := by
          intro t kt
          refine pre179 t ?_
          show Steps p.tables e below (T170.setTop (mkF m 922 #[.val (.int vlay), .val (.int vend), .val (.int vsc), .val (.long vbits), .second, .val (.int zz), .val (.int az), .val (.int pp), .val (.int ff), .val (.int (Int32.ofNat ne)), .val (.ref b7), .val (.ref b140), .val (.ref b146), .val (.int (own_two b146 (Int32.ofNat (own_rdk (own_cs (own_f pp zz az ff vbits)) ne 0 0)) vsc)), .val (.int (if pp < (Int32.ofNat ne) then ((Int32.ofNat ne) - (1 : Int32)) else (Int32.ofNat ne))), .val (.int (if az = (0 : Int32) then (own_max (0 : Int32) ((if pp < (Int32.ofNat ne) then ((Int32.ofNat ne) - (1 : Int32)) else (Int32.ofNat ne)) - zz)) else (0 : Int32))), .unset] [(.int (38 : Int32)), (.int vsc)])) _
          refine XS.icmpYes X170.here hx rfl (pc0 := 922) (pc' := 929) rfl (hb hby at_922) rfl (tlt (hc180 : (38 : Int32) < vsc)).2.2.1 (by decide) (by decide) ?_
          show Steps p.tables e below (T170.setTop (mkF m 929 #[.val (.int vlay), .val (.int vend), .val (.int vsc), .val (.long vbits), .second, .val (.int zz), .val (.int az), .val (.int pp), .val (.int ff), .val (.int (Int32.ofNat ne)), .val (.ref b7), .val (.ref b140), .val (.ref b146), .val (.int (own_two b146 (Int32.ofNat (own_rdk (own_cs (own_f pp zz az ff vbits)) ne 0 0)) vsc)), .val (.int (if pp < (Int32.ofNat ne) then ((Int32.ofNat ne) - (1 : Int32)) else (Int32.ofNat ne))), .val (.int (if az = (0 : Int32) then (own_max (0 : Int32) ((if pp < (Int32.ofNat ne) then ((Int32.ofNat ne) - (1 : Int32)) else (Int32.ofNat ne)) - zz)) else (0 : Int32))), .unset] [])) _
          refine XS.iconst X170.here hx rfl (hb hby at_929) ?_
          exact kt
        exact ⟨T170, _, X170, e170, N170, fun t kt => by
          simp only [if_neg hc177, if_pos hc180] at kt
          exact pre181 t kt⟩
      ·
        have pre182 : ∀ t, Steps p.tables e below (T170.setTop (mkF m 930 #[.val (.int vlay), .val (.int vend), .val (.int vsc), .val (.long vbits), .second, .val (.int zz), .val (.int az), .val (.int pp), .val (.int ff), .val (.int (Int32.ofNat ne)), .val (.ref b7), .val (.ref b140), .val (.ref b146), .val (.int (own_two b146 (Int32.ofNat (own_rdk (own_cs (own_f pp zz az ff vbits)) ne 0 0)) vsc)), .val (.int (if pp < (Int32.ofNat ne) then ((Int32.ofNat ne) - (1 : Int32)) else (Int32.ofNat ne))), .val (.int (if az = (0 : Int32) then (own_max (0 : Int32) ((if pp < (Int32.ofNat ne) then ((Int32.ofNat ne) - (1 : Int32)) else (Int32.ofNat ne)) - zz)) else (0 : Int32))), .unset] [(.int (1 : Int32))])) t → Steps p.tables e below (s₁.setTop (entryFrame m #[(.int vlay), (.int vend), (.int vsc), (.long vbits)] maxLocals)) t := by
          intro t kt
          refine pre179 t ?_
          show Steps p.tables e below (T170.setTop (mkF m 922 #[.val (.int vlay), .val (.int vend), .val (.int vsc), .val (.long vbits), .second, .val (.int zz), .val (.int az), .val (.int pp), .val (.int ff), .val (.int (Int32.ofNat ne)), .val (.ref b7), .val (.ref b140), .val (.ref b146), .val (.int (own_two b146 (Int32.ofNat (own_rdk (own_cs (own_f pp zz az ff vbits)) ne 0 0)) vsc)), .val (.int (if pp < (Int32.ofNat ne) then ((Int32.ofNat ne) - (1 : Int32)) else (Int32.ofNat ne))), .val (.int (if az = (0 : Int32) then (own_max (0 : Int32) ((if pp < (Int32.ofNat ne) then ((Int32.ofNat ne) - (1 : Int32)) else (Int32.ofNat ne)) - zz)) else (0 : Int32))), .unset] [(.int (38 : Int32)), (.int vsc)])) _
          refine XS.icmpNo X170.here hx rfl (hb hby at_922) rfl (flt (hc180 : ¬ ((38 : Int32) < vsc))).2.2.1 ?_
          show Steps p.tables e below (T170.setTop (mkF m 925 #[.val (.int vlay), .val (.int vend), .val (.int vsc), .val (.long vbits), .second, .val (.int zz), .val (.int az), .val (.int pp), .val (.int ff), .val (.int (Int32.ofNat ne)), .val (.ref b7), .val (.ref b140), .val (.ref b146), .val (.int (own_two b146 (Int32.ofNat (own_rdk (own_cs (own_f pp zz az ff vbits)) ne 0 0)) vsc)), .val (.int (if pp < (Int32.ofNat ne) then ((Int32.ofNat ne) - (1 : Int32)) else (Int32.ofNat ne))), .val (.int (if az = (0 : Int32) then (own_max (0 : Int32) ((if pp < (Int32.ofNat ne) then ((Int32.ofNat ne) - (1 : Int32)) else (Int32.ofNat ne)) - zz)) else (0 : Int32))), .unset] [])) _
          refine XS.iconst X170.here hx rfl (hb hby at_925) ?_
          show Steps p.tables e below (T170.setTop (mkF m 926 #[.val (.int vlay), .val (.int vend), .val (.int vsc), .val (.long vbits), .second, .val (.int zz), .val (.int az), .val (.int pp), .val (.int ff), .val (.int (Int32.ofNat ne)), .val (.ref b7), .val (.ref b140), .val (.ref b146), .val (.int (own_two b146 (Int32.ofNat (own_rdk (own_cs (own_f pp zz az ff vbits)) ne 0 0)) vsc)), .val (.int (if pp < (Int32.ofNat ne) then ((Int32.ofNat ne) - (1 : Int32)) else (Int32.ofNat ne))), .val (.int (if az = (0 : Int32) then (own_max (0 : Int32) ((if pp < (Int32.ofNat ne) then ((Int32.ofNat ne) - (1 : Int32)) else (Int32.ofNat ne)) - zz)) else (0 : Int32))), .unset] [(.int (1 : Int32))])) _
          refine XS.goto X170.here hx rfl (pc0 := 926) (pc' := 930) rfl (hb hby at_926) (by decide) (by decide) ?_
          exact kt
        exact ⟨T170, _, X170, e170, N170, fun t kt => by
          simp only [if_neg hc177, if_neg hc180] at kt
          exact pre182 t kt⟩
  obtain ⟨fs, hr, hrun, hended, hW, hsame⟩ := X176.leave (v := some (.int (1 : Int32))) (fun h => by rw [Bd.returns] at h; cases h) (hlocks := BodyLoose.notSynchronized Bd)
  refine ⟨_, _, pre176 _ ?_, hrun, hended, _, _, rfl, ?_, ⟨_, rfl⟩, hW, hsame.mono (by decide) (by decide)⟩
  ·
    show Steps p.tables e below (T176.setTop (mkF m 930 #[.val (.int vlay), .val (.int vend), .val (.int vsc), .val (.long vbits), .second, .val (.int zz), .val (.int az), .val (.int pp), .val (.int ff), .val (.int (Int32.ofNat ne)), .val (.ref b7), .val (.ref b140), .val (.ref b146), .val (.int (own_two b146 (Int32.ofNat (own_rdk (own_cs (own_f pp zz az ff vbits)) ne 0 0)) vsc)), .val (.int (if pp < (Int32.ofNat ne) then ((Int32.ofNat ne) - (1 : Int32)) else (Int32.ofNat ne))), .val (.int (if az = (0 : Int32) then (own_max (0 : Int32) ((if pp < (Int32.ofNat ne) then ((Int32.ofNat ne) - (1 : Int32)) else (Int32.ofNat ne)) - zz)) else (0 : Int32))), .unset] [(.int (if (38 : Int32) < (if az = (0 : Int32) then (own_max (0 : Int32) ((if pp < (Int32.ofNat ne) then ((Int32.ofNat ne) - (1 : Int32)) else (Int32.ofNat ne)) - zz)) else (0 : Int32)) then (0 : Int32) else (if (38 : Int32) < vsc then (0 : Int32) else (1 : Int32))))])) _
    refine XS.istore X176.here hx rfl (hb hby at_930) rfl (l' := #[.val (.int vlay), .val (.int vend), .val (.int vsc), .val (.long vbits), .second, .val (.int zz), .val (.int az), .val (.int pp), .val (.int ff), .val (.int (Int32.ofNat ne)), .val (.ref b7), .val (.ref b140), .val (.ref b146), .val (.int (own_two b146 (Int32.ofNat (own_rdk (own_cs (own_f pp zz az ff vbits)) ne 0 0)) vsc)), .val (.int (if pp < (Int32.ofNat ne) then ((Int32.ofNat ne) - (1 : Int32)) else (Int32.ofNat ne))), .val (.int (if az = (0 : Int32) then (own_max (0 : Int32) ((if pp < (Int32.ofNat ne) then ((Int32.ofNat ne) - (1 : Int32)) else (Int32.ofNat ne)) - zz)) else (0 : Int32))), .val (.int (if (38 : Int32) < (if az = (0 : Int32) then (own_max (0 : Int32) ((if pp < (Int32.ofNat ne) then ((Int32.ofNat ne) - (1 : Int32)) else (Int32.ofNat ne)) - zz)) else (0 : Int32)) then (0 : Int32) else (if (38 : Int32) < vsc then (0 : Int32) else (1 : Int32))))]) rfl ?_
    show Steps p.tables e below (T176.setTop (mkF m 932 #[.val (.int vlay), .val (.int vend), .val (.int vsc), .val (.long vbits), .second, .val (.int zz), .val (.int az), .val (.int pp), .val (.int ff), .val (.int (Int32.ofNat ne)), .val (.ref b7), .val (.ref b140), .val (.ref b146), .val (.int (own_two b146 (Int32.ofNat (own_rdk (own_cs (own_f pp zz az ff vbits)) ne 0 0)) vsc)), .val (.int (if pp < (Int32.ofNat ne) then ((Int32.ofNat ne) - (1 : Int32)) else (Int32.ofNat ne))), .val (.int (if az = (0 : Int32) then (own_max (0 : Int32) ((if pp < (Int32.ofNat ne) then ((Int32.ofNat ne) - (1 : Int32)) else (Int32.ofNat ne)) - zz)) else (0 : Int32))), .val (.int (if (38 : Int32) < (if az = (0 : Int32) then (own_max (0 : Int32) ((if pp < (Int32.ofNat ne) then ((Int32.ofNat ne) - (1 : Int32)) else (Int32.ofNat ne)) - zz)) else (0 : Int32)) then (0 : Int32) else (if (38 : Int32) < vsc then (0 : Int32) else (1 : Int32))))] [])) _
    refine XS.iload X176.here hx rfl (hb hby at_932) rfl ?_
    show Steps p.tables e below (T176.setTop (mkF m 934 #[.val (.int vlay), .val (.int vend), .val (.int vsc), .val (.long vbits), .second, .val (.int zz), .val (.int az), .val (.int pp), .val (.int ff), .val (.int (Int32.ofNat ne)), .val (.ref b7), .val (.ref b140), .val (.ref b146), .val (.int (own_two b146 (Int32.ofNat (own_rdk (own_cs (own_f pp zz az ff vbits)) ne 0 0)) vsc)), .val (.int (if pp < (Int32.ofNat ne) then ((Int32.ofNat ne) - (1 : Int32)) else (Int32.ofNat ne))), .val (.int (if az = (0 : Int32) then (own_max (0 : Int32) ((if pp < (Int32.ofNat ne) then ((Int32.ofNat ne) - (1 : Int32)) else (Int32.ofNat ne)) - zz)) else (0 : Int32))), .val (.int (if (38 : Int32) < (if az = (0 : Int32) then (own_max (0 : Int32) ((if pp < (Int32.ofNat ne) then ((Int32.ofNat ne) - (1 : Int32)) else (Int32.ofNat ne)) - zz)) else (0 : Int32)) then (0 : Int32) else (if (38 : Int32) < vsc then (0 : Int32) else (1 : Int32))))] [(.int (own_two b146 (Int32.ofNat (own_rdk (own_cs (own_f pp zz az ff vbits)) ne 0 0)) vsc))])) _
    refine XS.iload X176.here hx rfl (hb hby at_934) rfl ?_
    show Steps p.tables e below (T176.setTop (mkF m 936 #[.val (.int vlay), .val (.int vend), .val (.int vsc), .val (.long vbits), .second, .val (.int zz), .val (.int az), .val (.int pp), .val (.int ff), .val (.int (Int32.ofNat ne)), .val (.ref b7), .val (.ref b140), .val (.ref b146), .val (.int (own_two b146 (Int32.ofNat (own_rdk (own_cs (own_f pp zz az ff vbits)) ne 0 0)) vsc)), .val (.int (if pp < (Int32.ofNat ne) then ((Int32.ofNat ne) - (1 : Int32)) else (Int32.ofNat ne))), .val (.int (if az = (0 : Int32) then (own_max (0 : Int32) ((if pp < (Int32.ofNat ne) then ((Int32.ofNat ne) - (1 : Int32)) else (Int32.ofNat ne)) - zz)) else (0 : Int32))), .val (.int (if (38 : Int32) < (if az = (0 : Int32) then (own_max (0 : Int32) ((if pp < (Int32.ofNat ne) then ((Int32.ofNat ne) - (1 : Int32)) else (Int32.ofNat ne)) - zz)) else (0 : Int32)) then (0 : Int32) else (if (38 : Int32) < vsc then (0 : Int32) else (1 : Int32))))] [(.int (if (38 : Int32) < (if az = (0 : Int32) then (own_max (0 : Int32) ((if pp < (Int32.ofNat ne) then ((Int32.ofNat ne) - (1 : Int32)) else (Int32.ofNat ne)) - zz)) else (0 : Int32)) then (0 : Int32) else (if (38 : Int32) < vsc then (0 : Int32) else (1 : Int32)))), (.int (own_two b146 (Int32.ofNat (own_rdk (own_cs (own_f pp zz az ff vbits)) ne 0 0)) vsc))])) _
    refine XS.icmpNo X176.here hx rfl (hb hby at_936) rfl (teq ((own_fin hzz hpp hff bne) : (own_two b146 (Int32.ofNat (own_rdk (own_cs (own_f pp zz az ff vbits)) ne 0 0)) vsc) = (if (38 : Int32) < (if az = (0 : Int32) then (own_max (0 : Int32) ((if pp < (Int32.ofNat ne) then ((Int32.ofNat ne) - (1 : Int32)) else (Int32.ofNat ne)) - zz)) else (0 : Int32)) then (0 : Int32) else (if (38 : Int32) < vsc then (0 : Int32) else (1 : Int32))))).2 ?_
    show Steps p.tables e below (T176.setTop (mkF m 939 #[.val (.int vlay), .val (.int vend), .val (.int vsc), .val (.long vbits), .second, .val (.int zz), .val (.int az), .val (.int pp), .val (.int ff), .val (.int (Int32.ofNat ne)), .val (.ref b7), .val (.ref b140), .val (.ref b146), .val (.int (own_two b146 (Int32.ofNat (own_rdk (own_cs (own_f pp zz az ff vbits)) ne 0 0)) vsc)), .val (.int (if pp < (Int32.ofNat ne) then ((Int32.ofNat ne) - (1 : Int32)) else (Int32.ofNat ne))), .val (.int (if az = (0 : Int32) then (own_max (0 : Int32) ((if pp < (Int32.ofNat ne) then ((Int32.ofNat ne) - (1 : Int32)) else (Int32.ofNat ne)) - zz)) else (0 : Int32))), .val (.int (if (38 : Int32) < (if az = (0 : Int32) then (own_max (0 : Int32) ((if pp < (Int32.ofNat ne) then ((Int32.ofNat ne) - (1 : Int32)) else (Int32.ofNat ne)) - zz)) else (0 : Int32)) then (0 : Int32) else (if (38 : Int32) < vsc then (0 : Int32) else (1 : Int32))))] [])) _
    refine XS.iconst X176.here hx rfl (hb hby at_939) ?_
    show Steps p.tables e below (T176.setTop (mkF m 940 #[.val (.int vlay), .val (.int vend), .val (.int vsc), .val (.long vbits), .second, .val (.int zz), .val (.int az), .val (.int pp), .val (.int ff), .val (.int (Int32.ofNat ne)), .val (.ref b7), .val (.ref b140), .val (.ref b146), .val (.int (own_two b146 (Int32.ofNat (own_rdk (own_cs (own_f pp zz az ff vbits)) ne 0 0)) vsc)), .val (.int (if pp < (Int32.ofNat ne) then ((Int32.ofNat ne) - (1 : Int32)) else (Int32.ofNat ne))), .val (.int (if az = (0 : Int32) then (own_max (0 : Int32) ((if pp < (Int32.ofNat ne) then ((Int32.ofNat ne) - (1 : Int32)) else (Int32.ofNat ne)) - zz)) else (0 : Int32))), .val (.int (if (38 : Int32) < (if az = (0 : Int32) then (own_max (0 : Int32) ((if pp < (Int32.ofNat ne) then ((Int32.ofNat ne) - (1 : Int32)) else (Int32.ofNat ne)) - zz)) else (0 : Int32)) then (0 : Int32) else (if (38 : Int32) < vsc then (0 : Int32) else (1 : Int32))))] [(.int (1 : Int32))])) _
    refine XS.goto X176.here hx rfl (pc0 := 940) (pc' := 944) rfl (hb hby at_940) (by decide) (by decide) ?_
    show Steps p.tables e below (T176.setTop (mkF m 944 #[.val (.int vlay), .val (.int vend), .val (.int vsc), .val (.long vbits), .second, .val (.int zz), .val (.int az), .val (.int pp), .val (.int ff), .val (.int (Int32.ofNat ne)), .val (.ref b7), .val (.ref b140), .val (.ref b146), .val (.int (own_two b146 (Int32.ofNat (own_rdk (own_cs (own_f pp zz az ff vbits)) ne 0 0)) vsc)), .val (.int (if pp < (Int32.ofNat ne) then ((Int32.ofNat ne) - (1 : Int32)) else (Int32.ofNat ne))), .val (.int (if az = (0 : Int32) then (own_max (0 : Int32) ((if pp < (Int32.ofNat ne) then ((Int32.ofNat ne) - (1 : Int32)) else (Int32.ofNat ne)) - zz)) else (0 : Int32))), .val (.int (if (38 : Int32) < (if az = (0 : Int32) then (own_max (0 : Int32) ((if pp < (Int32.ofNat ne) then ((Int32.ofNat ne) - (1 : Int32)) else (Int32.ofNat ne)) - zz)) else (0 : Int32)) then (0 : Int32) else (if (38 : Int32) < vsc then (0 : Int32) else (1 : Int32))))] [(.int (1 : Int32))])) _
    exact retN X176 hx (t := .boolean) Bd.returns (by simp) (hb hby at_944) hr
  ·
    show Q0 Z vlay vend vsc vbits vz fm h0 n0 _ T176.heap _
    rw [e176]
    exact ⟨rfl, N176⟩
set_option maxRecDepth 65536 in
set_option maxHeartbeats 40000000 in
theorem comes_1 {Post : Tables → Env → Array Value → State → Outcome → State → Prop} (hpost : ∀ tb e args s v u, (limb_1_1.after args s (.returned v) u = true ∧ limb_1_2.after args s (.returned v) u = true ∧ True) → FrameEnd s (.returned v) u (Jvm.fieldLocs frame_1_writes args s ++ Jvm.arrayLocs frame_1_arrays args s ++ Jvm.staticLocs frame_1_statics s) 16 256 → Post tb e args s (.returned v) u) :
    ArmFor flags0 classFile x code maxLocals ret World_1 tables_1 room_1 Calls_1 rest_1 Pre_1 Post := by
  intro l hfl _ _ p e ha hc hk s m args below hf hA hF happ hP
  obtain ⟨hcalls, hrest, hpre⟩ := hP
  obtain ⟨-, -, -, hnamed, -, -, -, hat⟩ := (Spec.applies_iff hf).mp happ
  obtain ⟨hg, hn⟩ := and_e (Cond.before_iff.mp (show (Jvm.Cond.and given_1 narrow_1).before args s = true from hpre))
  obtain ⟨g1a, g1b⟩ := and_e hg
  obtain ⟨g2a, g2b⟩ := and_e g1b
  obtain ⟨g3a, g3b⟩ := and_e g2b
  obtain ⟨g4a, g4b⟩ := and_e g3b
  obtain ⟨w0, w1, w2, w3, rfl⟩ : ∃ w0 w1 w2 w3 : Value, args = #[w0, w1, w2, w3] := by
    have hs : args.size = 4 := by simpa [Cond.value, given_1] using g1a
    obtain ⟨L⟩ := args
    match L, hs with
    | [w0, w1, w2, w3], _ => exact ⟨w0, w1, w2, w3, rfl⟩
  have hw := fun d (hd : d ∈ tables_1) => atoms_spec (ws := Jvm.Cond.code x code maxLocals ret :: tables_1) hat d (List.mem_cons_of_mem _ hd)
  have hfit : Fit s := fun {y c} hc i hi => by
    obtain ⟨ha, rfl⟩ := Array.getElem?_eq_some_iff.mp hc
    have q := List.all_eq_true.mp ((Array.all_eq_true_iff_forall_mem.mp hF) _ (Array.getElem_mem ha)) i (List.mem_range.mpr hi)
    simpa [Array.getElem?_eq_getElem hi] using q
  obtain ⟨hsets, hown0⟩ := atoms_of _ (rest_1_c_eq ▸ (show rest_1_c.before _ s = true from hrest))
  have hr0 := Cond.before_iff.mp hown0
  obtain ⟨vlay, ei0⟩ := is_v g2a
  obtain rfl : w0 = (.int vlay) := Option.some.inj ei0
  obtain ⟨vend, ei1⟩ := is_v g3a
  obtain rfl : w1 = (.int vend) := Option.some.inj ei1
  obtain ⟨vsc, ei2⟩ := is_v g4a
  obtain rfl : w2 = (.int vsc) := Option.some.inj ei2
  obtain ⟨vbits, ei3⟩ := isL_v g4b
  obtain rfl : w3 = (.long vbits) := Option.some.inj ei3
  have n5 := not_v (Cond.before_iff.mp (hsets _ (List.mem_of_getElem? (i := 2) rfl)))
  obtain ⟨vz, ez⟩ := is_v (Cond.before_iff.mp (hsets _ (List.mem_of_getElem? (i := 1) rfl)))
  have S_cs : Sta s s.heap "java/lang/String" "COMPACT_STRINGS" "Z" (.int vz) := Sta.start ez (Or.inl (hsets _ (List.mem_of_getElem? (i := 0) rfl)))
  have hcs : ¬ vz = 0 := gotF (Cond.eq_ints ez (Term.int_eval (0))) n5
  obtain ⟨fm, efm, rfm⟩ := isR_v (Cond.before_iff.mp (hsets _ (List.mem_of_getElem? (i := 8) rfl)))
  have S_fm : Sta s s.heap "jdk/internal/util/Preconditions" "SIOOBE_FORMATTER" "Ljava/util/function/BiFunction;" fm := Sta.start efm (Or.inl (hsets _ (List.mem_of_getElem? (i := 7) rfl)))
  obtain ⟨n, o, h1, h2, h3, _, L, rfl, ⟨rfl, N⟩, hq⟩ := rm0 l s _ hw tables_1 vlay vend vsc vbits vz fm s.heap s.heap.size (Nat.le_refl _) S_cs S_fm hcs rfm p e ha hc hk s m _ below hf ((Spec.applies_iff_loose hf).mp happ).1 ⟨rfl, State.Warmed39.refl s, rfl⟩ trivial
  refine ⟨n, _, h1, h2, h3, hpost _ _ _ _ _ _ ⟨Cond.after_iff.mpr rfl, Cond.after_iff.mpr (eq_i res_at (Term.int_eval (1)) rfl), trivial⟩ ⟨hq.1, hq.2.1, (hq.2.2.sift fun y hy => Or.inr (N y hy)).mono (by decide) (by decide)⟩⟩
theorem main_1_1 : Claimed_1_1 := comes_1 fun _ _ _ _ _ _ h hF => ⟨h.1, hF⟩
theorem main_1_2 : Claimed_1_2 := comes_1 fun _ _ _ _ _ _ h hF => ⟨h.2.1, hF⟩
end Jvm.Pilot.@@N@@
namespace Jvm.Pilot.@@N@@
open Jvm Jvm.ClassFile Sem Op Lib Jvm.Free Jvm.Stand Jvm.Pilot.@@N@@.Jvm.D
/-! MADE BY PROGRAM (witnessworld.py) out of the Statement's table words and the real class files: 24 classes; the members and pool entries that the words name. The judged class is class 1, her method 2. -/
namespace start1
open Jvm.ClassFile
def u (s : String) : CpInfo := .utf8 (stringToUtf16 s)
/-- a pool by its gaps: so many unusable entries, then the entry; so many at the end -/
def gap : Nat → List CpInfo → List CpInfo
  | 0, r => r
  | n + 1, r => .unusable :: gap n r
def poolList (es : List (Nat × CpInfo)) (last : Nat) : List CpInfo := es.foldr (fun e r => gap e.1 (e.2 :: r)) (gap last [])
def pool (es : List (Nat × CpInfo)) (last : Nat) : Array CpInfo := ⟨poolList es last⟩
def fileOf (pool : Array CpInfo) (this : Nat) (attrs : Array Attribute := #[]) (ms : Array MethodInfo := #[]) (fl : Nat := 33) (sup : Nat := 0) (ifs : Array Nat := #[]) (fds : Array FieldInfo := #[]) : ClassFile where
  minorVersion := 0
  majorVersion := 65
  constantPool := pool
  accessFlags := fl
  thisClass := this
  superClass := sup
  interfaces := ifs
  fields := fds
  methods := ms
  attributes := attrs
def plain (name : String) (sup : Option ClassId) : Class where
  name := name
  kind := .ordinary
  loader := none
  accessFlags := 33
  super := sup
  interfaces := #[]
  cf := none
  fields := #[]
  methods := #[]
  instanceTypes := #[]
  staticTypes := #[]
  resolved := #[]
  callSites := []
  init := .initialized
  statics := none
  mirror := none

def pool0 : Array CpInfo := pool [(5, u "<init>"), (0, u "()V"), (1, .class_ 10), (1, u "java/lang/Object")] 113

def k0c0 : Code := { maxStack := 0, maxLocals := 1, code := object_method_1_code, exceptionTable := #[], attributes := #[] }
def k0m0 : Method := { name := "<init>", desc := "()V", sig := { parameters := [], returnType := none }, accessFlags := 1, code := some k0c0 }
/-- java/lang/Object -/
def k0 : Class := { plain "java/lang/Object" none with
  accessFlags := 33
  interfaces := #[]
  cf := some (fileOf pool0 8 #[] #[{ accessFlags := 1, nameIndex := 5, descriptorIndex := 6, attributes := #[] }] 33 0 #[] #[])
  fields := #[]
  methods := #[k0m0]
  instanceTypes := #[]
  staticTypes := #[]
  resolved := Array.replicate 124 none
  statics := none }

def pool1 : Array CpInfo := pool [(2, .class_ 4), (0, .nameAndType 5 6), (0, u "java/lang/Object"), (0, u "<init>"), (0, u "()V"), (0, .long 15), (1, .long 10), (1, .integer 2147483647), (0, .methodref 13 14), (0, .class_ 15), (0, .nameAndType 16 17), (0, u "com/example/paniere/paniere/DigitsInTwoLongsPinLaw"), (0, u "ch"), (0, u "(IIIZIJ)C"), (0, .class_ 19), (0, u "java/lang/String"), (0, .methodref 18 21), (0, .nameAndType 5 22), (0, u "([C)V"), (0, .class_ 24), (0, u "com/example/paniere/paniere/CompactDecimal$Digits"), (0, .methodref 23 3), (0, .methodref 23 27), (0, .nameAndType 28 29), (0, u "read"), (0, u "(Ljava/lang/String;II)V"), (0, .methodref 23 31), (0, .nameAndType 32 33), (0, u "inTwoLongs"), (0, u "()Z"), (0, .methodref 35 36), (0, .class_ 37), (0, .nameAndType 38 39), (0, u "java/lang/Math"), (0, u "max"), (0, u "(II)I"), (3, u "law"), (0, u "(IIIJ)Z")] 8

def k1m0 : Method := { name := "<init>", desc := "()V", sig := { parameters := [], returnType := none }, accessFlags := 2, code := none }
def k1c1 : Code := { maxStack := 5, maxLocals := 8, code := method_2_code, exceptionTable := #[], attributes := #[] }
def k1m1 : Method := { name := "ch", desc := "(IIIZIJ)C", sig := { parameters := [.int, .int, .int, .boolean, .int, .long], returnType := some .char }, accessFlags := 10, code := some k1c1 }
def k1c2 : Code := { maxStack := 10, maxLocals := 17, code := code, exceptionTable := #[], attributes := #[] }
def k1m2 : Method := { name := "law", desc := "(IIIJ)Z", sig := { parameters := [.int, .int, .int, .long], returnType := some .boolean }, accessFlags := 9, code := some k1c2 }
/-- com/example/paniere/paniere/DigitsInTwoLongsPinLaw -/
def k1 : Class := { plain "com/example/paniere/paniere/DigitsInTwoLongsPinLaw" (some 0) with
  accessFlags := 49
  interfaces := #[]
  cf := some (fileOf pool1 13 #[] #[{ accessFlags := 2, nameIndex := 5, descriptorIndex := 6, attributes := #[] }, { accessFlags := 10, nameIndex := 16, descriptorIndex := 17, attributes := #[] }, { accessFlags := 9, nameIndex := 43, descriptorIndex := 44, attributes := #[] }] 49 2 #[] #[])
  fields := #[]
  methods := #[k1m0, k1m1, k1m2]
  instanceTypes := #[]
  staticTypes := #[]
  resolved := Array.replicate 53 none
  statics := none }

def pool2 : Array CpInfo := pool [(1, .class_ 2), (0, u "java/io/Serializable"), (0, .class_ 4), (0, u "java/lang/Object")] 2

/-- java/io/Serializable -/
def k2 : Class := { plain "java/io/Serializable" (some 0) with
  accessFlags := 1537
  interfaces := #[]
  cf := some (fileOf pool2 1 #[] #[] 1537 3 #[] #[])
  fields := #[]
  methods := #[]
  instanceTypes := #[]
  staticTypes := #[]
  resolved := Array.replicate 7 none
  statics := none }

def pool3 : Array CpInfo := pool [(1, .class_ 2), (0, u "java/lang/Comparable"), (0, .class_ 4), (0, u "java/lang/Object")] 7

/-- java/lang/Comparable -/
def k3 : Class := { plain "java/lang/Comparable" (some 0) with
  accessFlags := 1537
  interfaces := #[]
  cf := some (fileOf pool3 1 #[] #[] 1537 3 #[] #[])
  fields := #[]
  methods := #[]
  instanceTypes := #[]
  staticTypes := #[]
  resolved := Array.replicate 12 none
  statics := none }

def pool4 : Array CpInfo := pool [(2, .class_ 4), (1, u "java/lang/CharSequence"), (42, .class_ 48), (0, u "java/lang/CharSequence$1CodePointIterator"), (10, .class_ 60), (0, u "java/lang/CharSequence$1CharIterator"), (5, .class_ 67), (0, u "java/lang/Object")] 63

/-- java/lang/CharSequence -/
def k4 : Class := { plain "java/lang/CharSequence" (some 0) with
  accessFlags := 1537
  interfaces := #[]
  cf := some (fileOf pool4 2 #[.nestMembers #[47, 59]] #[] 1537 66 #[] #[])
  fields := #[]
  methods := #[]
  instanceTypes := #[]
  staticTypes := #[]
  resolved := Array.replicate 131 none
  statics := none }

def pool5 : Array CpInfo := pool [(1, .class_ 2), (0, u "java/lang/constant/Constable"), (0, .class_ 4), (0, u "java/lang/Object")] 6

/-- java/lang/constant/Constable -/
def k5 : Class := { plain "java/lang/constant/Constable" (some 0) with
  accessFlags := 1537
  interfaces := #[]
  cf := some (fileOf pool5 1 #[] #[] 1537 3 #[] #[])
  fields := #[]
  methods := #[]
  instanceTypes := #[]
  staticTypes := #[]
  resolved := Array.replicate 11 none
  statics := none }

def pool6 : Array CpInfo := pool [(1, .class_ 2), (0, u "java/lang/constant/ConstantDesc"), (0, .class_ 4), (0, u "java/lang/Object")] 32

/-- java/lang/constant/ConstantDesc -/
def k6 : Class := { plain "java/lang/constant/ConstantDesc" (some 0) with
  accessFlags := 1537
  interfaces := #[]
  cf := some (fileOf pool6 1 #[] #[] 1537 3 #[] #[])
  fields := #[]
  methods := #[]
  instanceTypes := #[]
  staticTypes := #[]
  resolved := Array.replicate 37 none
  statics := none }

def pool7 : Array CpInfo := pool [(1, .methodref 2 3), (0, .class_ 4), (0, .nameAndType 5 6), (0, u "java/lang/Object"), (0, u "<init>"), (0, u "()V"), (2, .fieldref 10 11), (0, .class_ 12), (0, .nameAndType 13 14), (0, u "java/lang/String"), (0, u "value"), (0, u "[B"), (0, .fieldref 10 16), (0, .nameAndType 17 18), (0, u "coder"), (0, u "B"), (2, u "hash"), (0, u "I"), (2, u "hashIsZero"), (0, u "Z"), (0, .methodref 10 28), (0, .nameAndType 5 29), (0, u "([CIILjava/lang/Void;)V"), (8, .fieldref 10 39), (0, .nameAndType 40 26), (0, u "COMPACT_STRINGS"), (1, .class_ 44), (1, u "java/lang/StringUTF16"), (0, u "compress"), (1, .methodref 42 48), (0, .nameAndType 49 50), (0, u "coderFromArrayLen"), (0, u "([BI)B"), (56, .class_ 109), (1, u "java/lang/StringLatin1"), (32, u "()Z"), (34, .methodref 42 178), (0, .nameAndType 45 179), (0, u "([CII)[B"), (183, u "([BI)C"), (27, u "(II)V"), (35, u "(I)C"), (64, .methodref 10 493), (0, .nameAndType 494 142), (0, u "isLatin1"), (0, .methodref 107 496), (0, .nameAndType 497 363), (0, u "charAt"), (3, u "checkIndex"), (73, .class_ 576), (0, u "java/lang/CharSequence"), (22, u "CASE_INSENSITIVE_ORDER"), (0, u "Ljava/util/Comparator;"), (409, u "([C)V"), (42, .fieldref 1054 1055), (0, .class_ 1056), (0, .nameAndType 1057 1058), (0, u "jdk/internal/util/Preconditions"), (0, u "SIOOBE_FORMATTER"), (0, u "Ljava/util/function/BiFunction;"), (0, .methodref 1054 1060), (0, .nameAndType 501 1061), (0, u "(IILjava/util/function/BiFunction;)I"), (39, u "serialPersistentFields"), (0, u "[Ljava/io/ObjectStreamField;"), (0, .class_ 1104), (0, u "java/lang/String$CaseInsensitiveComparator"), (1, .class_ 1107), (0, u "java/io/Serializable"), (0, .class_ 1109), (0, u "java/lang/Comparable"), (0, .class_ 1111), (0, u "java/lang/constant/Constable"), (0, .class_ 1113), (0, u "java/lang/constant/ConstantDesc"), (2, u "serialVersionUID"), (0, u "J"), (3, u "REPL"), (0, u "C"), (2, u "LATIN1"), (1, u "UTF16")] 323

def k7m0 : Method := { name := "<init>", desc := "()V", sig := { parameters := [], returnType := none }, accessFlags := 1, code := none }
def k7c1 : Code := { maxStack := 5, maxLocals := 2, code := jdk_42_method_3_code, exceptionTable := #[], attributes := #[] }
def k7m1 : Method := { name := "<init>", desc := "([C)V", sig := { parameters := [(.array .char)], returnType := none }, accessFlags := 1, code := some k7c1 }
def k7c2 : Code := { maxStack := 2, maxLocals := 2, code := jdk_42_method_56_code, exceptionTable := #[], attributes := #[] }
def k7m2 : Method := { name := "charAt", desc := "(I)C", sig := { parameters := [.int], returnType := some .char }, accessFlags := 1, code := some k7c2 }
def k7c3 : Code := { maxStack := 4, maxLocals := 6, code := jdk_42_method_149_code, exceptionTable := #[], attributes := #[] }
def k7m3 : Method := { name := "<init>", desc := "([CIILjava/lang/Void;)V", sig := { parameters := [(.array .char), .int, .int, (.object "java/lang/Void")], returnType := none }, accessFlags := 2, code := some k7c3 }
def k7c4 : Code := { maxStack := 1, maxLocals := 1, code := jdk_42_method_154_code, exceptionTable := #[], attributes := #[] }
def k7m4 : Method := { name := "isLatin1", desc := "()Z", sig := { parameters := [], returnType := some .boolean }, accessFlags := 0, code := some k7c4 }
def k7c5 : Code := { maxStack := 3, maxLocals := 2, code := jdk_42_method_155_code, exceptionTable := #[], attributes := #[] }
def k7m5 : Method := { name := "checkIndex", desc := "(II)V", sig := { parameters := [.int, .int], returnType := none }, accessFlags := 8, code := some k7c5 }
/-- java/lang/String -/
def k7 : Class := { plain "java/lang/String" (some 0) with
  accessFlags := 49
  interfaces := #[2, 3, 4, 5, 6]
  cf := some (fileOf pool7 10 #[.nestMembers #[1103]] #[{ accessFlags := 1, nameIndex := 5, descriptorIndex := 6, attributes := #[] }, { accessFlags := 1, nameIndex := 5, descriptorIndex := 1010, attributes := #[] }, { accessFlags := 1, nameIndex := 497, descriptorIndex := 427, attributes := #[] }, { accessFlags := 2, nameIndex := 5, descriptorIndex := 29, attributes := #[] }, { accessFlags := 0, nameIndex := 494, descriptorIndex := 142, attributes := #[] }, { accessFlags := 8, nameIndex := 501, descriptorIndex := 391, attributes := #[] }] 49 2 #[1106, 1108, 575, 1110, 1112] #[{ accessFlags := 18, nameIndex := 13, descriptorIndex := 14, attributes := #[] }, { accessFlags := 18, nameIndex := 17, descriptorIndex := 18, attributes := #[] }, { accessFlags := 2, nameIndex := 21, descriptorIndex := 22, attributes := #[] }, { accessFlags := 2, nameIndex := 25, descriptorIndex := 26, attributes := #[] }, { accessFlags := 26, nameIndex := 1116, descriptorIndex := 1117, attributes := #[] }, { accessFlags := 24, nameIndex := 40, descriptorIndex := 26, attributes := #[] }, { accessFlags := 26, nameIndex := 1101, descriptorIndex := 1102, attributes := #[] }, { accessFlags := 26, nameIndex := 1121, descriptorIndex := 1122, attributes := #[] }, { accessFlags := 25, nameIndex := 599, descriptorIndex := 600, attributes := #[] }, { accessFlags := 24, nameIndex := 1125, descriptorIndex := 18, attributes := #[] }, { accessFlags := 24, nameIndex := 1127, descriptorIndex := 18, attributes := #[] }])
  fields := #[{ name := "value", type := (.array .byte), accessFlags := 18, slot := 0, constantValue := 0 }, { name := "coder", type := .byte, accessFlags := 18, slot := 1, constantValue := 0 }, { name := "hash", type := .int, accessFlags := 2, slot := 2, constantValue := 0 }, { name := "hashIsZero", type := .boolean, accessFlags := 2, slot := 3, constantValue := 0 }, { name := "serialVersionUID", type := .long, accessFlags := 26, slot := 0, constantValue := 0 }, { name := "COMPACT_STRINGS", type := .boolean, accessFlags := 24, slot := 1, constantValue := 0 }, { name := "serialPersistentFields", type := (.array (.object "java/io/ObjectStreamField")), accessFlags := 26, slot := 2, constantValue := 0 }, { name := "REPL", type := .char, accessFlags := 26, slot := 3, constantValue := 0 }, { name := "CASE_INSENSITIVE_ORDER", type := (.object "java/util/Comparator"), accessFlags := 25, slot := 4, constantValue := 0 }, { name := "LATIN1", type := .byte, accessFlags := 24, slot := 5, constantValue := 0 }, { name := "UTF16", type := .byte, accessFlags := 24, slot := 6, constantValue := 0 }]
  methods := #[k7m0, k7m1, k7m2, k7m3, k7m4, k7m5]
  instanceTypes := #[(.array .byte), .byte, .int, .boolean]
  staticTypes := #[.long, .boolean, (.array (.object "java/io/ObjectStreamField")), .char, (.object "java/util/Comparator"), .byte, .byte]
  resolved := Array.replicate 1451 none
  statics := some 0 }

def pool8 : Array CpInfo := pool [(6, .class_ 8), (1, u "java/lang/Object"), (0, u "<init>"), (0, u "()V"), (1, .class_ 14), (1, u "java/lang/StringUTF16"), (31, u "$assertionsDisabled"), (0, u "Z"), (13, u "HI_BYTE_SHIFT"), (0, u "I"), (2, u "LO_BYTE_SHIFT"), (49, .methodref 12 116), (0, .nameAndType 117 118), (0, u "compress"), (0, u "([CI[BII)I"), (3, u "([CII)[B"), (138, u "coderFromArrayLen"), (0, u "([BI)B"), (106, .class_ 371), (1, u "java/lang/StringUTF16$LinesSpliterator"), (58, u "MAX_LENGTH"), (196, .class_ 628), (0, u "java/lang/StringUTF16$CodePointsSpliterator"), (0, .class_ 630), (0, u "java/lang/StringUTF16$CharsSpliterator")] 4

def k8m0 : Method := { name := "<init>", desc := "()V", sig := { parameters := [], returnType := none }, accessFlags := 0, code := none }
def k8c1 : Code := { maxStack := 2, maxLocals := 2, code := jdk_52_method_15_code, exceptionTable := #[], attributes := #[] }
def k8m1 : Method := { name := "coderFromArrayLen", desc := "([BI)B", sig := { parameters := [(.array .byte), .int], returnType := some .byte }, accessFlags := 8, code := some k8c1 }
def k8c2 : Code := { maxStack := 5, maxLocals := 6, code := jdk_52_method_16_code, exceptionTable := #[], attributes := #[] }
def k8m2 : Method := { name := "compress", desc := "([CII)[B", sig := { parameters := [(.array .char), .int, .int], returnType := some (.array .byte) }, accessFlags := 9, code := some k8c2 }
def k8c3 : Code := { maxStack := 3, maxLocals := 7, code := jdk_52_method_21_code, exceptionTable := #[], attributes := #[] }
def k8m3 : Method := { name := "compress", desc := "([CI[BII)I", sig := { parameters := [(.array .char), .int, (.array .byte), .int, .int], returnType := some .int }, accessFlags := 9, code := some k8c3 }
/-- java/lang/StringUTF16 -/
def k8 : Class := { plain "java/lang/StringUTF16" (some 0) with
  accessFlags := 48
  interfaces := #[]
  cf := some (fileOf pool8 12 #[.nestMembers #[627, 629, 369]] #[{ accessFlags := 0, nameIndex := 9, descriptorIndex := 10, attributes := #[] }, { accessFlags := 8, nameIndex := 261, descriptorIndex := 262, attributes := #[] }, { accessFlags := 9, nameIndex := 117, descriptorIndex := 122, attributes := #[] }, { accessFlags := 9, nameIndex := 117, descriptorIndex := 118, attributes := #[] }] 48 6 #[] #[{ accessFlags := 26, nameIndex := 61, descriptorIndex := 62, attributes := #[] }, { accessFlags := 26, nameIndex := 65, descriptorIndex := 62, attributes := #[] }, { accessFlags := 24, nameIndex := 430, descriptorIndex := 62, attributes := #[] }, { accessFlags := 4120, nameIndex := 46, descriptorIndex := 47, attributes := #[] }])
  fields := #[{ name := "HI_BYTE_SHIFT", type := .int, accessFlags := 26, slot := 0, constantValue := 0 }, { name := "LO_BYTE_SHIFT", type := .int, accessFlags := 26, slot := 1, constantValue := 0 }, { name := "MAX_LENGTH", type := .int, accessFlags := 24, slot := 2, constantValue := 0 }, { name := "$assertionsDisabled", type := .boolean, accessFlags := 4120, slot := 3, constantValue := 0 }]
  methods := #[k8m0, k8m1, k8m2, k8m3]
  instanceTypes := #[]
  staticTypes := #[.int, .int, .int, .boolean]
  resolved := Array.replicate 635 none
  statics := none }

def pool9 : Array CpInfo := pool [(1, .class_ 2), (0, u "com/example/paniere/paniere/CompactDecimal"), (0, .methodref 4 5), (0, .class_ 6), (0, .nameAndType 7 8), (0, u "java/lang/Object"), (0, u "<init>"), (0, u "()V"), (0, .fieldref 10 11), (0, .class_ 12), (0, .nameAndType 13 14), (0, u "com/example/paniere/paniere/CompactDecimal$Digits"), (0, u "high"), (0, u "J"), (0, .fieldref 10 16), (0, .nameAndType 17 14), (0, u "low"), (0, .fieldref 10 19), (0, .nameAndType 20 21), (0, u "scale"), (0, u "I"), (0, .fieldref 10 23), (0, .nameAndType 24 21), (0, u "significant"), (0, .methodref 26 27), (0, .class_ 28), (0, .nameAndType 29 30), (0, u "java/lang/String"), (0, u "charAt"), (0, u "(I)C"), (0, .methodref 10 32), (0, .nameAndType 33 34), (0, u "appendDigit"), (0, u "(I)V"), (10, .long 100000000000000000), (1, .long 10), (1, .methodref 1 50), (0, .nameAndType 51 52), (0, u "unsignedMultiplyHigh"), (0, u "(JJ)J"), (0, .methodref 1 54), (0, .nameAndType 55 52), (0, u "carryOut"), (0, u "ONE_LONG_BOUND"), (3, u "read"), (0, u "(Ljava/lang/String;II)V"), (2, u "()Z"), (0, u "inTwoLongs")] 9

def k9c0 : Code := { maxStack := 1, maxLocals := 1, code := prog_7_method_1_code, exceptionTable := #[], attributes := #[] }
def k9m0 : Method := { name := "<init>", desc := "()V", sig := { parameters := [], returnType := none }, accessFlags := 0, code := some k9c0 }
def k9c1 : Code := { maxStack := 3, maxLocals := 6, code := prog_7_method_2_code, exceptionTable := #[], attributes := #[] }
def k9m1 : Method := { name := "read", desc := "(Ljava/lang/String;II)V", sig := { parameters := [(.object "java/lang/String"), .int, .int], returnType := none }, accessFlags := 0, code := some k9c1 }
def k9c2 : Code := { maxStack := 2, maxLocals := 1, code := prog_7_method_4_code, exceptionTable := #[], attributes := #[] }
def k9m2 : Method := { name := "inTwoLongs", desc := "()Z", sig := { parameters := [], returnType := some .boolean }, accessFlags := 0, code := some k9c2 }
def k9c3 : Code := { maxStack := 7, maxLocals := 4, code := prog_7_method_10_code, exceptionTable := #[], attributes := #[] }
def k9m3 : Method := { name := "appendDigit", desc := "(I)V", sig := { parameters := [.int], returnType := none }, accessFlags := 2, code := some k9c3 }
/-- com/example/paniere/paniere/CompactDecimal$Digits -/
def k9 : Class := { plain "com/example/paniere/paniere/CompactDecimal$Digits" (some 0) with
  accessFlags := 48
  interfaces := #[]
  cf := some (fileOf pool9 10 #[.nestHost 1] #[{ accessFlags := 0, nameIndex := 7, descriptorIndex := 8, attributes := #[] }, { accessFlags := 0, nameIndex := 60, descriptorIndex := 61, attributes := #[] }, { accessFlags := 0, nameIndex := 65, descriptorIndex := 64, attributes := #[] }, { accessFlags := 2, nameIndex := 33, descriptorIndex := 34, attributes := #[] }] 48 4 #[] #[{ accessFlags := 26, nameIndex := 56, descriptorIndex := 14, attributes := #[] }, { accessFlags := 2, nameIndex := 13, descriptorIndex := 14, attributes := #[] }, { accessFlags := 2, nameIndex := 17, descriptorIndex := 14, attributes := #[] }, { accessFlags := 2, nameIndex := 20, descriptorIndex := 21, attributes := #[] }, { accessFlags := 2, nameIndex := 24, descriptorIndex := 21, attributes := #[] }])
  fields := #[{ name := "ONE_LONG_BOUND", type := .long, accessFlags := 26, slot := 0, constantValue := 0 }, { name := "high", type := .long, accessFlags := 2, slot := 0, constantValue := 0 }, { name := "low", type := .long, accessFlags := 2, slot := 1, constantValue := 0 }, { name := "scale", type := .int, accessFlags := 2, slot := 2, constantValue := 0 }, { name := "significant", type := .int, accessFlags := 2, slot := 3, constantValue := 0 }]
  methods := #[k9m0, k9m1, k9m2, k9m3]
  instanceTypes := #[.long, .long, .int, .int]
  staticTypes := #[.long]
  resolved := Array.replicate 75 none
  statics := none }

def pool10 : Array CpInfo := pool [(1, .class_ 2), (0, u "java/lang/String"), (1, .class_ 6), (1, u "java/lang/Object"), (0, u "<init>"), (0, u "()V"), (0, .methodref 1 10), (0, .nameAndType 11 12), (0, u "checkIndex"), (0, u "(II)V"), (1, .class_ 16), (1, u "java/lang/StringLatin1"), (36, u "([BI)C"), (67, u "$assertionsDisabled"), (0, u "Z"), (98, .class_ 223), (1, u "java/lang/StringLatin1$LinesSpliterator"), (28, u "charAt"), (137, .class_ 391), (0, u "java/lang/StringLatin1$CharsSpliterator")] 3

def k10m0 : Method := { name := "<init>", desc := "()V", sig := { parameters := [], returnType := none }, accessFlags := 0, code := none }
def k10c1 : Code := { maxStack := 2, maxLocals := 2, code := jdk_43_method_2_code, exceptionTable := #[], attributes := #[] }
def k10m1 : Method := { name := "charAt", desc := "([BI)C", sig := { parameters := [(.array .byte), .int], returnType := some .char }, accessFlags := 9, code := some k10c1 }
/-- java/lang/StringLatin1 -/
def k10 : Class := { plain "java/lang/StringLatin1" (some 0) with
  accessFlags := 48
  interfaces := #[]
  cf := some (fileOf pool10 14 #[.nestMembers #[390, 221]] #[{ accessFlags := 0, nameIndex := 7, descriptorIndex := 8, attributes := #[] }, { accessFlags := 9, nameIndex := 252, descriptorIndex := 53, attributes := #[] }] 48 4 #[] #[{ accessFlags := 4120, nameIndex := 121, descriptorIndex := 122, attributes := #[] }])
  fields := #[{ name := "$assertionsDisabled", type := .boolean, accessFlags := 4120, slot := 0, constantValue := 0 }]
  methods := #[k10m0, k10m1]
  instanceTypes := #[]
  staticTypes := #[.boolean]
  resolved := Array.replicate 395 none
  statics := none }

def pool11 : Array CpInfo := pool [(2, .class_ 4), (1, u "java/lang/Object"), (0, u "<init>"), (0, u "()V"), (17, .class_ 26), (1, u "jdk/internal/util/Preconditions"), (6, u "checkIndex"), (21, .class_ 56), (0, u "jdk/internal/util/Preconditions$4"), (57, .class_ 115), (0, u "jdk/internal/util/Preconditions$1"), (7, u "SIOOBE_FORMATTER"), (0, u "Ljava/util/function/BiFunction;"), (0, .class_ 126), (0, u "jdk/internal/util/Preconditions$2"), (3, u "AIOOBE_FORMATTER"), (0, .class_ 132), (0, u "jdk/internal/util/Preconditions$3"), (3, u "IOOBE_FORMATTER"), (41, u "(IILjava/util/function/BiFunction;)I")] 15

def k11m0 : Method := { name := "<init>", desc := "()V", sig := { parameters := [], returnType := none }, accessFlags := 1, code := none }
def k11c1 : Code := { maxStack := 3, maxLocals := 3, code := jdk_41_method_11_code, exceptionTable := #[], attributes := #[] }
def k11m1 : Method := { name := "checkIndex", desc := "(IILjava/util/function/BiFunction;)I", sig := { parameters := [.int, .int, (.object "java/util/function/BiFunction")], returnType := some .int }, accessFlags := 9, code := some k11c1 }
/-- jdk/internal/util/Preconditions -/
def k11 : Class := { plain "jdk/internal/util/Preconditions" (some 0) with
  accessFlags := 33
  interfaces := #[]
  cf := some (fileOf pool11 24 #[.nestMembers #[55, 131, 125, 114]] #[{ accessFlags := 1, nameIndex := 5, descriptorIndex := 6, attributes := #[] }, { accessFlags := 9, nameIndex := 33, descriptorIndex := 178, attributes := #[] }] 33 2 #[] #[{ accessFlags := 25, nameIndex := 123, descriptorIndex := 124, attributes := #[] }, { accessFlags := 25, nameIndex := 130, descriptorIndex := 124, attributes := #[] }, { accessFlags := 25, nameIndex := 136, descriptorIndex := 124, attributes := #[] }])
  fields := #[{ name := "SIOOBE_FORMATTER", type := (.object "java/util/function/BiFunction"), accessFlags := 25, slot := 0, constantValue := 0 }, { name := "AIOOBE_FORMATTER", type := (.object "java/util/function/BiFunction"), accessFlags := 25, slot := 1, constantValue := 0 }, { name := "IOOBE_FORMATTER", type := (.object "java/util/function/BiFunction"), accessFlags := 25, slot := 2, constantValue := 0 }]
  methods := #[k11m0, k11m1]
  instanceTypes := #[]
  staticTypes := #[(.object "java/util/function/BiFunction"), (.object "java/util/function/BiFunction"), (.object "java/util/function/BiFunction")]
  resolved := Array.replicate 194 none
  statics := some 1 }

def pool12 : Array CpInfo := pool [(1, .class_ 2), (0, u "java/lang/Math"), (1, .class_ 6), (1, u "java/lang/Object"), (0, u "<init>"), (0, u "()V"), (89, .class_ 100), (1, u "java/lang/Math$RandomNumberGeneratorHolder"), (20, u "(JJ)J"), (16, .long 4294967295), (3, u "multiplyHigh"), (29, u "negativeZeroFloatBits"), (0, u "J"), (2, u "negativeZeroDoubleBits"), (21, u "max"), (46, u "$assertionsDisabled"), (0, u "Z"), (88, u "(II)I"), (2, u "twoToTheDoubleScaleDown"), (0, u "D"), (4, u "twoToTheDoubleScaleUp"), (9, u "E"), (3, u "PI"), (2, u "TAU"), (2, u "DEGREES_TO_RADIANS"), (0, u "RADIANS_TO_DEGREES")] 94

def k12m0 : Method := { name := "<init>", desc := "()V", sig := { parameters := [], returnType := none }, accessFlags := 2, code := none }
def k12c1 : Code := { maxStack := 6, maxLocals := 20, code := jdk_29_method_45_code, exceptionTable := #[], attributes := #[] }
def k12m1 : Method := { name := "multiplyHigh", desc := "(JJ)J", sig := { parameters := [.long, .long], returnType := some .long }, accessFlags := 9, code := some k12c1 }
def k12c2 : Code := { maxStack := 2, maxLocals := 2, code := jdk_29_method_65_code, exceptionTable := #[], attributes := #[] }
def k12m2 : Method := { name := "max", desc := "(II)I", sig := { parameters := [.int, .int], returnType := some .int }, accessFlags := 9, code := some k12c2 }
/-- java/lang/Math -/
def k12 : Class := { plain "java/lang/Math" (some 0) with
  accessFlags := 49
  interfaces := #[]
  cf := some (fileOf pool12 1 #[.nestMembers #[98]] #[{ accessFlags := 2, nameIndex := 7, descriptorIndex := 8, attributes := #[] }, { accessFlags := 9, nameIndex := 142, descriptorIndex := 121, attributes := #[] }, { accessFlags := 9, nameIndex := 198, descriptorIndex := 335, attributes := #[] }] 49 4 #[] #[{ accessFlags := 25, nameIndex := 354, descriptorIndex := 339, attributes := #[] }, { accessFlags := 25, nameIndex := 358, descriptorIndex := 339, attributes := #[] }, { accessFlags := 25, nameIndex := 361, descriptorIndex := 339, attributes := #[] }, { accessFlags := 26, nameIndex := 364, descriptorIndex := 339, attributes := #[] }, { accessFlags := 26, nameIndex := 365, descriptorIndex := 339, attributes := #[] }, { accessFlags := 26, nameIndex := 172, descriptorIndex := 173, attributes := #[] }, { accessFlags := 26, nameIndex := 176, descriptorIndex := 173, attributes := #[] }, { accessFlags := 8, nameIndex := 344, descriptorIndex := 339, attributes := #[] }, { accessFlags := 8, nameIndex := 338, descriptorIndex := 339, attributes := #[] }, { accessFlags := 4120, nameIndex := 245, descriptorIndex := 246, attributes := #[] }])
  fields := #[{ name := "E", type := .double, accessFlags := 25, slot := 0, constantValue := 0 }, { name := "PI", type := .double, accessFlags := 25, slot := 1, constantValue := 0 }, { name := "TAU", type := .double, accessFlags := 25, slot := 2, constantValue := 0 }, { name := "DEGREES_TO_RADIANS", type := .double, accessFlags := 26, slot := 3, constantValue := 0 }, { name := "RADIANS_TO_DEGREES", type := .double, accessFlags := 26, slot := 4, constantValue := 0 }, { name := "negativeZeroFloatBits", type := .long, accessFlags := 26, slot := 5, constantValue := 0 }, { name := "negativeZeroDoubleBits", type := .long, accessFlags := 26, slot := 6, constantValue := 0 }, { name := "twoToTheDoubleScaleUp", type := .double, accessFlags := 8, slot := 7, constantValue := 0 }, { name := "twoToTheDoubleScaleDown", type := .double, accessFlags := 8, slot := 8, constantValue := 0 }, { name := "$assertionsDisabled", type := .boolean, accessFlags := 4120, slot := 9, constantValue := 0 }]
  methods := #[k12m0, k12m1, k12m2]
  instanceTypes := #[]
  staticTypes := #[.double, .double, .double, .double, .double, .long, .long, .double, .double, .boolean]
  resolved := Array.replicate 460 none
  statics := none }

def pool13 : Array CpInfo := pool [(1, .class_ 2), (0, u "com/example/paniere/paniere/CompactDecimal"), (1, .class_ 6), (1, u "java/lang/Object"), (0, u "<init>"), (0, u "()V"), (31, u "POWERS_OF_TEN"), (0, u "[D"), (1, .class_ 45), (1, u "java/lang/Long"), (3, u "RECIPROCAL_HIGHS"), (0, u "[J"), (2, u "RECIPROCAL_LOWS"), (2, u "unsignedMultiplyHigh"), (0, u "(JJ)J"), (2, u "carryOut"), (9, u "RECIPROCAL_EXPONENTS"), (0, u "[I"), (1, .class_ 75), (1, u "java/lang/Math"), (2, .methodref 73 79), (0, .nameAndType 80 57), (0, u "multiplyHigh"), (0, .methodref 43 82), (0, .nameAndType 83 84), (0, u "compareUnsigned"), (0, u "(JJ)I"), (98, u "NONE"), (0, u "J"), (3, u "SCALE_SHIFT"), (0, u "I"), (1, u "UNSCALED_BOUND"), (2, u "MAX_SCALE"), (1, u "EXACT_DOUBLE_BOUND"), (0, u "TWO_LONG_DIGITS"), (13, .class_ 212), (0, u "com/example/paniere/paniere/CompactDecimal$Sum"), (0, .class_ 214), (0, u "com/example/paniere/paniere/CompactDecimal$Digits")] 3

def k13m0 : Method := { name := "<init>", desc := "()V", sig := { parameters := [], returnType := none }, accessFlags := 2, code := none }
def k13c1 : Code := { maxStack := 6, maxLocals := 4, code := prog_6_method_9_code, exceptionTable := #[], attributes := #[] }
def k13m1 : Method := { name := "unsignedMultiplyHigh", desc := "(JJ)J", sig := { parameters := [.long, .long], returnType := some .long }, accessFlags := 10, code := some k13c1 }
def k13c2 : Code := { maxStack := 4, maxLocals := 4, code := prog_6_method_10_code, exceptionTable := #[], attributes := #[] }
def k13m2 : Method := { name := "carryOut", desc := "(JJ)J", sig := { parameters := [.long, .long], returnType := some .long }, accessFlags := 10, code := some k13c2 }
/-- com/example/paniere/paniere/CompactDecimal -/
def k13 : Class := { plain "com/example/paniere/paniere/CompactDecimal" (some 0) with
  accessFlags := 48
  interfaces := #[]
  cf := some (fileOf pool13 1 #[.nestMembers #[211, 213]] #[{ accessFlags := 2, nameIndex := 7, descriptorIndex := 8, attributes := #[] }, { accessFlags := 10, nameIndex := 56, descriptorIndex := 57, attributes := #[] }, { accessFlags := 10, nameIndex := 60, descriptorIndex := 57, attributes := #[] }] 48 4 #[] #[{ accessFlags := 24, nameIndex := 183, descriptorIndex := 184, attributes := #[] }, { accessFlags := 26, nameIndex := 188, descriptorIndex := 189, attributes := #[] }, { accessFlags := 26, nameIndex := 191, descriptorIndex := 184, attributes := #[] }, { accessFlags := 26, nameIndex := 194, descriptorIndex := 189, attributes := #[] }, { accessFlags := 26, nameIndex := 196, descriptorIndex := 184, attributes := #[] }, { accessFlags := 26, nameIndex := 40, descriptorIndex := 41, attributes := #[] }, { accessFlags := 24, nameIndex := 197, descriptorIndex := 189, attributes := #[] }, { accessFlags := 26, nameIndex := 49, descriptorIndex := 50, attributes := #[] }, { accessFlags := 26, nameIndex := 53, descriptorIndex := 50, attributes := #[] }, { accessFlags := 26, nameIndex := 70, descriptorIndex := 71, attributes := #[] }])
  fields := #[{ name := "NONE", type := .long, accessFlags := 24, slot := 0, constantValue := 0 }, { name := "SCALE_SHIFT", type := .int, accessFlags := 26, slot := 1, constantValue := 0 }, { name := "UNSCALED_BOUND", type := .long, accessFlags := 26, slot := 2, constantValue := 0 }, { name := "MAX_SCALE", type := .int, accessFlags := 26, slot := 3, constantValue := 0 }, { name := "EXACT_DOUBLE_BOUND", type := .long, accessFlags := 26, slot := 4, constantValue := 0 }, { name := "POWERS_OF_TEN", type := (.array .double), accessFlags := 26, slot := 5, constantValue := 0 }, { name := "TWO_LONG_DIGITS", type := .int, accessFlags := 24, slot := 6, constantValue := 0 }, { name := "RECIPROCAL_HIGHS", type := (.array .long), accessFlags := 26, slot := 7, constantValue := 0 }, { name := "RECIPROCAL_LOWS", type := (.array .long), accessFlags := 26, slot := 8, constantValue := 0 }, { name := "RECIPROCAL_EXPONENTS", type := (.array .int), accessFlags := 26, slot := 9, constantValue := 0 }]
  methods := #[k13m0, k13m1, k13m2]
  instanceTypes := #[]
  staticTypes := #[.long, .int, .long, .int, .long, (.array .double), .int, (.array .long), (.array .long), (.array .int)]
  resolved := Array.replicate 218 none
  statics := none }

def pool14 : Array CpInfo := pool [(2, .class_ 4), (1, u "java/lang/Object"), (0, u "<init>"), (0, u "()V"), (1, .class_ 10), (1, u "java/lang/Number"), (2, .class_ 14), (0, u "java/io/Serializable"), (0, u "serialVersionUID"), (0, u "J")] 20

def k14m0 : Method := { name := "<init>", desc := "()V", sig := { parameters := [], returnType := none }, accessFlags := 1, code := none }
/-- java/lang/Number -/
def k14 : Class := { plain "java/lang/Number" (some 0) with
  accessFlags := 1057
  interfaces := #[2]
  cf := some (fileOf pool14 8 #[] #[{ accessFlags := 1, nameIndex := 5, descriptorIndex := 6, attributes := #[] }] 1057 2 #[13] #[{ accessFlags := 26, nameIndex := 15, descriptorIndex := 16, attributes := #[] }])
  fields := #[{ name := "serialVersionUID", type := .long, accessFlags := 26, slot := 0, constantValue := 0 }]
  methods := #[k14m0]
  instanceTypes := #[]
  staticTypes := #[.long]
  resolved := Array.replicate 37 none
  statics := none }

def pool15 : Array CpInfo := pool [(1, .class_ 2), (0, u "java/lang/Long"), (165, .long 9223372036854775808), (66, .class_ 237), (1, u "java/lang/Long$LongCache"), (33, .class_ 272), (0, u "java/lang/Number"), (2, u "value"), (0, u "J"), (25, .methodref 1 303), (0, .nameAndType 304 305), (0, u "compare"), (0, u "(JJ)I"), (55, u "TYPE"), (0, u "Ljava/lang/Class;"), (0, .class_ 364), (0, u "java/lang/Comparable"), (0, .class_ 366), (0, u "java/lang/constant/Constable"), (0, .class_ 368), (0, u "java/lang/constant/ConstantDesc"), (0, u "MIN_VALUE"), (1, u "MAX_VALUE"), (4, u "SIZE"), (0, u "I"), (1, u "BYTES"), (1, u "serialVersionUID"), (87, u "compareUnsigned")] 54

def k15c0 : Code := { maxStack := 4, maxLocals := 4, code := jdk_35_method_42_code, exceptionTable := #[], attributes := #[] }
def k15m0 : Method := { name := "compare", desc := "(JJ)I", sig := { parameters := [.long, .long], returnType := some .int }, accessFlags := 9, code := some k15c0 }
def k15c1 : Code := { maxStack := 6, maxLocals := 4, code := jdk_35_method_43_code, exceptionTable := #[], attributes := #[] }
def k15m1 : Method := { name := "compareUnsigned", desc := "(JJ)I", sig := { parameters := [.long, .long], returnType := some .int }, accessFlags := 9, code := some k15c1 }
/-- java/lang/Long -/
def k15 : Class := { plain "java/lang/Long" (some 14) with
  accessFlags := 49
  interfaces := #[3, 5, 6]
  cf := some (fileOf pool15 1 #[.nestMembers #[235]] #[{ accessFlags := 9, nameIndex := 304, descriptorIndex := 305, attributes := #[] }, { accessFlags := 9, nameIndex := 469, descriptorIndex := 305, attributes := #[] }] 49 271 #[363, 365, 367] #[{ accessFlags := 25, nameIndex := 369, descriptorIndex := 276, attributes := #[] }, { accessFlags := 25, nameIndex := 371, descriptorIndex := 276, attributes := #[] }, { accessFlags := 25, nameIndex := 361, descriptorIndex := 362, attributes := #[] }, { accessFlags := 18, nameIndex := 275, descriptorIndex := 276, attributes := #[] }, { accessFlags := 25, nameIndex := 376, descriptorIndex := 377, attributes := #[] }, { accessFlags := 25, nameIndex := 379, descriptorIndex := 377, attributes := #[] }, { accessFlags := 26, nameIndex := 381, descriptorIndex := 276, attributes := #[] }])
  fields := #[{ name := "MIN_VALUE", type := .long, accessFlags := 25, slot := 0, constantValue := 0 }, { name := "MAX_VALUE", type := .long, accessFlags := 25, slot := 1, constantValue := 0 }, { name := "TYPE", type := (.object "java/lang/Class"), accessFlags := 25, slot := 2, constantValue := 0 }, { name := "value", type := .long, accessFlags := 18, slot := 0, constantValue := 0 }, { name := "SIZE", type := .int, accessFlags := 25, slot := 3, constantValue := 0 }, { name := "BYTES", type := .int, accessFlags := 25, slot := 4, constantValue := 0 }, { name := "serialVersionUID", type := .long, accessFlags := 26, slot := 5, constantValue := 0 }]
  methods := #[k15m0, k15m1]
  instanceTypes := #[.long]
  staticTypes := #[.long, .long, (.object "java/lang/Class"), .int, .int, .long]
  resolved := Array.replicate 524 none
  statics := none }

def pool16 : Array CpInfo := pool [(9, u "<init>"), (6, .class_ 18), (1, u "java/lang/Object"), (0, u "()V"), (1, .class_ 23), (1, u "jdk/internal/util/ArraysSupport"), (0, u "LOG2_ARRAY_LONG_INDEX_SCALE"), (0, u "I"), (2, u "U"), (0, u "Ljdk/internal/misc/Unsafe;"), (8, u "BIG_ENDIAN"), (0, u "Z"), (8, u "LOG2_BYTE_BIT_SIZE"), (4, u "LOG2_ARRAY_INT_INDEX_SCALE"), (54, u "JLA"), (0, u "Ljdk/internal/access/JavaLangAccess;"), (11, u "LOG2_ARRAY_BOOLEAN_INDEX_SCALE"), (9, u "LOG2_ARRAY_BYTE_INDEX_SCALE"), (5, u "LOG2_ARRAY_CHAR_INDEX_SCALE"), (5, u "LOG2_ARRAY_SHORT_INDEX_SCALE"), (18, u "LOG2_ARRAY_FLOAT_INDEX_SCALE"), (24, u "LOG2_ARRAY_DOUBLE_INDEX_SCALE"), (89, u "T_BOOLEAN"), (2, u "T_CHAR"), (1, u "T_FLOAT"), (1, u "T_DOUBLE"), (1, u "T_BYTE"), (1, u "T_SHORT"), (1, u "T_INT"), (1, u "T_LONG"), (1, u "SOFT_MAX_ARRAY_LENGTH")] 83

def k16m0 : Method := { name := "<init>", desc := "()V", sig := { parameters := [], returnType := none }, accessFlags := 2, code := none }
/-- jdk/internal/util/ArraysSupport -/
def k16 : Class := { plain "jdk/internal/util/ArraysSupport" (some 0) with
  accessFlags := 33
  interfaces := #[]
  cf := some (fileOf pool16 21 #[] #[{ accessFlags := 2, nameIndex := 9, descriptorIndex := 19, attributes := #[] }] 33 16 #[] #[{ accessFlags := 24, nameIndex := 28, descriptorIndex := 29, attributes := #[] }, { accessFlags := 26, nameIndex := 38, descriptorIndex := 39, attributes := #[] }, { accessFlags := 25, nameIndex := 121, descriptorIndex := 25, attributes := #[] }, { accessFlags := 25, nameIndex := 131, descriptorIndex := 25, attributes := #[] }, { accessFlags := 25, nameIndex := 137, descriptorIndex := 25, attributes := #[] }, { accessFlags := 25, nameIndex := 143, descriptorIndex := 25, attributes := #[] }, { accessFlags := 25, nameIndex := 53, descriptorIndex := 25, attributes := #[] }, { accessFlags := 25, nameIndex := 24, descriptorIndex := 25, attributes := #[] }, { accessFlags := 25, nameIndex := 162, descriptorIndex := 25, attributes := #[] }, { accessFlags := 25, nameIndex := 187, descriptorIndex := 25, attributes := #[] }, { accessFlags := 26, nameIndex := 48, descriptorIndex := 25, attributes := #[] }, { accessFlags := 25, nameIndex := 277, descriptorIndex := 25, attributes := #[] }, { accessFlags := 25, nameIndex := 280, descriptorIndex := 25, attributes := #[] }, { accessFlags := 25, nameIndex := 282, descriptorIndex := 25, attributes := #[] }, { accessFlags := 25, nameIndex := 284, descriptorIndex := 25, attributes := #[] }, { accessFlags := 25, nameIndex := 286, descriptorIndex := 25, attributes := #[] }, { accessFlags := 25, nameIndex := 288, descriptorIndex := 25, attributes := #[] }, { accessFlags := 25, nameIndex := 290, descriptorIndex := 25, attributes := #[] }, { accessFlags := 25, nameIndex := 292, descriptorIndex := 25, attributes := #[] }, { accessFlags := 26, nameIndex := 108, descriptorIndex := 109, attributes := #[] }, { accessFlags := 25, nameIndex := 294, descriptorIndex := 25, attributes := #[] }])
  fields := #[{ name := "U", type := (.object "jdk/internal/misc/Unsafe"), accessFlags := 24, slot := 0, constantValue := 0 }, { name := "BIG_ENDIAN", type := .boolean, accessFlags := 26, slot := 1, constantValue := 0 }, { name := "LOG2_ARRAY_BOOLEAN_INDEX_SCALE", type := .int, accessFlags := 25, slot := 2, constantValue := 0 }, { name := "LOG2_ARRAY_BYTE_INDEX_SCALE", type := .int, accessFlags := 25, slot := 3, constantValue := 0 }, { name := "LOG2_ARRAY_CHAR_INDEX_SCALE", type := .int, accessFlags := 25, slot := 4, constantValue := 0 }, { name := "LOG2_ARRAY_SHORT_INDEX_SCALE", type := .int, accessFlags := 25, slot := 5, constantValue := 0 }, { name := "LOG2_ARRAY_INT_INDEX_SCALE", type := .int, accessFlags := 25, slot := 6, constantValue := 0 }, { name := "LOG2_ARRAY_LONG_INDEX_SCALE", type := .int, accessFlags := 25, slot := 7, constantValue := 0 }, { name := "LOG2_ARRAY_FLOAT_INDEX_SCALE", type := .int, accessFlags := 25, slot := 8, constantValue := 0 }, { name := "LOG2_ARRAY_DOUBLE_INDEX_SCALE", type := .int, accessFlags := 25, slot := 9, constantValue := 0 }, { name := "LOG2_BYTE_BIT_SIZE", type := .int, accessFlags := 26, slot := 10, constantValue := 0 }, { name := "T_BOOLEAN", type := .int, accessFlags := 25, slot := 11, constantValue := 0 }, { name := "T_CHAR", type := .int, accessFlags := 25, slot := 12, constantValue := 0 }, { name := "T_FLOAT", type := .int, accessFlags := 25, slot := 13, constantValue := 0 }, { name := "T_DOUBLE", type := .int, accessFlags := 25, slot := 14, constantValue := 0 }, { name := "T_BYTE", type := .int, accessFlags := 25, slot := 15, constantValue := 0 }, { name := "T_SHORT", type := .int, accessFlags := 25, slot := 16, constantValue := 0 }, { name := "T_INT", type := .int, accessFlags := 25, slot := 17, constantValue := 0 }, { name := "T_LONG", type := .int, accessFlags := 25, slot := 18, constantValue := 0 }, { name := "JLA", type := (.object "jdk/internal/access/JavaLangAccess"), accessFlags := 26, slot := 19, constantValue := 0 }, { name := "SOFT_MAX_ARRAY_LENGTH", type := .int, accessFlags := 25, slot := 20, constantValue := 0 }]
  methods := #[k16m0]
  instanceTypes := #[]
  staticTypes := #[(.object "jdk/internal/misc/Unsafe"), .boolean, .int, .int, .int, .int, .int, .int, .int, .int, .int, .int, .int, .int, .int, .int, .int, .int, .int, (.object "jdk/internal/access/JavaLangAccess"), .int]
  resolved := Array.replicate 378 none
  statics := none }

def pool17 : Array CpInfo := pool [(1, u "java/lang/Cloneable"), (0, .class_ 1), (0, u "java/lang/Object"), (0, .class_ 3)] 3

/-- java/lang/Cloneable -/
def k17 : Class := { plain "java/lang/Cloneable" (some 0) with
  accessFlags := 1537
  interfaces := #[]
  cf := some (fileOf pool17 2 #[] #[] 1537 4 #[] #[])
  fields := #[]
  methods := #[]
  instanceTypes := #[]
  staticTypes := #[]
  resolved := Array.replicate 8 none
  statics := none }

/-- the primitive byte -/
def k18 : Class := { plain "byte" none with kind := .primitive 'B', accessFlags := 0x411 }
/-- [B -/
def k19 : Class := { plain "[B" (some 0) with kind := .array 18 .byte, interfaces := #[17, 2], accessFlags := 1041 }

/-- the primitive char -/
def k20 : Class := { plain "char" none with kind := .primitive 'C', accessFlags := 0x411 }
/-- [C -/
def k21 : Class := { plain "[C" (some 0) with kind := .array 20 .char, interfaces := #[17, 2], accessFlags := 1041 }

/-- the primitive int -/
def k22 : Class := { plain "int" none with kind := .primitive 'I', accessFlags := 0x411 }
/-- [I -/
def k23 : Class := { plain "[I" (some 0) with kind := .array 22 .int, interfaces := #[17, 2], accessFlags := 1041 }

def heap : Heap := #[{ cls := 7, slots := #[.long 0, .int 1, .null, .int 0, .null, .int 0, .int 0], vm := .statics 7 },
  { cls := 11, slots := #[.null, .null, .null], vm := .statics 11 }]
def classes : Array Class := #[k0, k1, k2, k3, k4, k5, k6, k7, k8, k9, k10, k11, k12, k13, k14, k15, k16, k17, k18, k19, k20, k21, k22, k23]
def interned : List (Array UInt16 × Addr) := []
def slotsUsed : Nat := 10
def theMethod : MethodId := ⟨1, 2⟩
def args0 : Array Value := #[.int 5, .int 7, .int 9, .long 4]
def aboutOver (below : List Frame) : State where
  vm := { classes := classes, interned := interned.toArray }
  heap := heap
  slotsUsed := slotsUsed
  threads := #[{ frames := .invoking theMethod args0 :: below }]
def below0 : List Frame := [.native { method := ⟨0, 0⟩, args := #[] }]
def about1 : State := aboutOver below0
def p0 : Program := .bare "" "" ""
def e0 : Env := launch0.env 0 0 0
theorem w_frames : about1.frames = Frame.invoking theMethod args0 :: below0 := rfl
set_option maxRecDepth 65536 in
theorem w_args : argsFit about1.vm theMethod args0 = true := by decide +kernel
set_option maxRecDepth 65536 in
theorem w_heap : heapFits about1 = true := by decide +kernel
set_option maxRecDepth 65536 in
theorem w_runnable : about1.curStatus? = some .runnable := by decide +kernel
set_option maxRecDepth 65536 in
theorem w_alone : about1.alone = true := by decide +kernel
set_option maxRecDepth 65536 in
theorem w_named : about1.methodNamed? x = some theMethod := by decide +kernel
set_option maxRecDepth 65536 in
theorem w_hears : about1.hears theMethod below0 = true := by decide +kernel
set_option maxRecDepth 65536 in
theorem w_ripe : about1.ripe theMethod args0 below0 = true := by decide +kernel
theorem w_running : about1.status = .running := rfl
set_option maxRecDepth 65536 in
theorem w_room : about1.hasRoom e0.platform room_1 = true :=
  launch0.hasRoom_least _ room_1 (by decide +kernel) (by decide +kernel) (by decide +kernel) (by decide +kernel) (by decide +kernel) (by decide +kernel)
theorem allAtoms_all (ts : List Jvm.Cond) (a : Array Jvm.Value) (st : Jvm.State) : (allAtoms ts).before a st = ts.all (fun c => c.before a st) := by
  induction ts with
  | nil => rfl
  | cons c t ih =>
    show (Jvm.Cond.and c (allAtoms t)).before a st = _
    rw [Jvm.Cond.before_and, ih, List.all_cons]
def words1 : List Jvm.Cond := Jvm.Cond.code x code maxLocals ret :: tables_1
/-- a 'code' word, met by the world's own term for the bytes: nothing is compared byte by byte -/
theorem code_word {y : MethodName} {bytes : ByteArray} {mx : Nat} {rt : Option FieldType} {a : Array Value} {s : State} {m : MethodId} {meth : Method} {c : Code} (h1 : s.methodNamed? y = some m) (h2 : s.vm.method? m = some meth) (h3 : meth.code = some c) (h4 : c.code = bytes)
    (h5 : (c.maxLocals == mx && c.exceptionTable.isEmpty && decide (c.maxStack ≤ mostOperands) && decide (meth.sig.returnType = rt) && !meth.locks && decide (parseMethodDescriptor y.desc = some meth.sig)) = true) : (Jvm.Cond.code y bytes mx rt).before a s = true := by
  simp only [Bool.and_eq_true, beq_iff_eq, Bool.not_eq_true', decide_eq_true_eq] at h5
  obtain ⟨⟨⟨⟨⟨g1, g2⟩, g3⟩, g4⟩, g5⟩, g6⟩ := h5
  simp [Cond.before, Cond.holds, Cond.value, h1, h2, h3, h4, g1, g2, g3, g4, g5, g6]
def isCode : Jvm.Cond → Bool
  | .code _ _ _ _ => true
  | _ => false
theorem all_split {L : List Jvm.Cond} {P : Jvm.Cond → Bool} (h1 : L.all (fun c => isCode c || P c) = true) (h2 : ∀ c ∈ L.filter isCode, P c = true) : L.all P = true := by
  refine List.all_eq_true.mpr fun c hc => ?_
  have h := List.all_eq_true.mp h1 c hc
  rcases Bool.eq_false_or_eq_true (isCode c) with hi | hi
  · exact h2 c (List.mem_filter.mpr ⟨hc, hi⟩)
  · simpa [hi] using h
set_option maxRecDepth 65536 in
theorem w_c0 : (Jvm.Cond.code x code maxLocals ret).before args0 about1 = true := code_word (m := ⟨1, 2⟩) (meth := k1m2) (c := k1c2) (by decide +kernel) rfl rfl rfl (by decide +kernel)
set_option maxRecDepth 65536 in
theorem w_c1 : (Jvm.Cond.code ({ cls := "com/example/paniere/paniere/DigitsInTwoLongsPinLaw", name := "ch", desc := "(IIIZIJ)C" } : Jvm.MethodName) method_2_code (8 : Nat) (Option.some Jvm.ClassFile.FieldType.char)).before args0 about1 = true := code_word (m := ⟨1, 1⟩) (meth := k1m1) (c := k1c1) (by decide +kernel) rfl rfl rfl (by decide +kernel)
set_option maxRecDepth 65536 in
theorem w_c2 : (Jvm.Cond.code ({ cls := "java/lang/String", name := "<init>", desc := "([C)V" } : Jvm.MethodName) jdk_42_method_3_code (2 : Nat) (Option.none : Option Jvm.ClassFile.FieldType)).before args0 about1 = true := code_word (m := ⟨7, 1⟩) (meth := k7m1) (c := k7c1) (by decide +kernel) rfl rfl rfl (by decide +kernel)
set_option maxRecDepth 65536 in
theorem w_c3 : (Jvm.Cond.code ({ cls := "java/lang/String", name := "<init>", desc := "([CIILjava/lang/Void;)V" } : Jvm.MethodName) jdk_42_method_149_code (6 : Nat) (Option.none : Option Jvm.ClassFile.FieldType)).before args0 about1 = true := code_word (m := ⟨7, 3⟩) (meth := k7m3) (c := k7c3) (by decide +kernel) rfl rfl rfl (by decide +kernel)
set_option maxRecDepth 65536 in
theorem w_c4 : (Jvm.Cond.code ({ cls := "java/lang/Object", name := "<init>", desc := "()V" } : Jvm.MethodName) object_method_1_code (1 : Nat) (Option.none : Option Jvm.ClassFile.FieldType)).before args0 about1 = true := code_word (m := ⟨0, 0⟩) (meth := k0m0) (c := k0c0) (by decide +kernel) rfl rfl rfl (by decide +kernel)
set_option maxRecDepth 65536 in
theorem w_c5 : (Jvm.Cond.code ({ cls := "java/lang/StringUTF16", name := "compress", desc := "([CII)[B" } : Jvm.MethodName) jdk_52_method_16_code (6 : Nat) (Option.some (Jvm.ClassFile.FieldType.array Jvm.ClassFile.FieldType.byte))).before args0 about1 = true := code_word (m := ⟨8, 2⟩) (meth := k8m2) (c := k8c2) (by decide +kernel) rfl rfl rfl (by decide +kernel)
set_option maxRecDepth 65536 in
theorem w_c6 : (Jvm.Cond.code ({ cls := "java/lang/StringUTF16", name := "compress", desc := "([CI[BII)I" } : Jvm.MethodName) jdk_52_method_21_code (7 : Nat) (Option.some Jvm.ClassFile.FieldType.int)).before args0 about1 = true := code_word (m := ⟨8, 3⟩) (meth := k8m3) (c := k8c3) (by decide +kernel) rfl rfl rfl (by decide +kernel)
set_option maxRecDepth 65536 in
theorem w_c7 : (Jvm.Cond.code ({ cls := "java/lang/StringUTF16", name := "coderFromArrayLen", desc := "([BI)B" } : Jvm.MethodName) jdk_52_method_15_code (2 : Nat) (Option.some Jvm.ClassFile.FieldType.byte)).before args0 about1 = true := code_word (m := ⟨8, 1⟩) (meth := k8m1) (c := k8c1) (by decide +kernel) rfl rfl rfl (by decide +kernel)
set_option maxRecDepth 65536 in
theorem w_c8 : (Jvm.Cond.code ({ cls := "com/example/paniere/paniere/CompactDecimal$Digits", name := "<init>", desc := "()V" } : Jvm.MethodName) prog_7_method_1_code (1 : Nat) (Option.none : Option Jvm.ClassFile.FieldType)).before args0 about1 = true := code_word (m := ⟨9, 0⟩) (meth := k9m0) (c := k9c0) (by decide +kernel) rfl rfl rfl (by decide +kernel)
set_option maxRecDepth 65536 in
theorem w_c9 : (Jvm.Cond.code ({ cls := "com/example/paniere/paniere/CompactDecimal$Digits", name := "read", desc := "(Ljava/lang/String;II)V" } : Jvm.MethodName) prog_7_method_2_code (6 : Nat) (Option.none : Option Jvm.ClassFile.FieldType)).before args0 about1 = true := code_word (m := ⟨9, 1⟩) (meth := k9m1) (c := k9c1) (by decide +kernel) rfl rfl rfl (by decide +kernel)
set_option maxRecDepth 65536 in
theorem w_c10 : (Jvm.Cond.code ({ cls := "java/lang/String", name := "charAt", desc := "(I)C" } : Jvm.MethodName) jdk_42_method_56_code (2 : Nat) (Option.some Jvm.ClassFile.FieldType.char)).before args0 about1 = true := code_word (m := ⟨7, 2⟩) (meth := k7m2) (c := k7c2) (by decide +kernel) rfl rfl rfl (by decide +kernel)
set_option maxRecDepth 65536 in
theorem w_c11 : (Jvm.Cond.code ({ cls := "java/lang/String", name := "isLatin1", desc := "()Z" } : Jvm.MethodName) jdk_42_method_154_code (1 : Nat) (Option.some Jvm.ClassFile.FieldType.boolean)).before args0 about1 = true := code_word (m := ⟨7, 4⟩) (meth := k7m4) (c := k7c4) (by decide +kernel) rfl rfl rfl (by decide +kernel)
set_option maxRecDepth 65536 in
theorem w_c12 : (Jvm.Cond.code ({ cls := "java/lang/StringLatin1", name := "charAt", desc := "([BI)C" } : Jvm.MethodName) jdk_43_method_2_code (2 : Nat) (Option.some Jvm.ClassFile.FieldType.char)).before args0 about1 = true := code_word (m := ⟨10, 1⟩) (meth := k10m1) (c := k10c1) (by decide +kernel) rfl rfl rfl (by decide +kernel)
set_option maxRecDepth 65536 in
theorem w_c13 : (Jvm.Cond.code ({ cls := "java/lang/String", name := "checkIndex", desc := "(II)V" } : Jvm.MethodName) jdk_42_method_155_code (2 : Nat) (Option.none : Option Jvm.ClassFile.FieldType)).before args0 about1 = true := code_word (m := ⟨7, 5⟩) (meth := k7m5) (c := k7c5) (by decide +kernel) rfl rfl rfl (by decide +kernel)
set_option maxRecDepth 65536 in
theorem w_c14 : (Jvm.Cond.code ({ cls := "jdk/internal/util/Preconditions", name := "checkIndex", desc := "(IILjava/util/function/BiFunction;)I" } : Jvm.MethodName) jdk_41_method_11_code (3 : Nat) (Option.some Jvm.ClassFile.FieldType.int)).before args0 about1 = true := code_word (m := ⟨11, 1⟩) (meth := k11m1) (c := k11c1) (by decide +kernel) rfl rfl rfl (by decide +kernel)
set_option maxRecDepth 65536 in
theorem w_c15 : (Jvm.Cond.code ({ cls := "com/example/paniere/paniere/CompactDecimal$Digits", name := "inTwoLongs", desc := "()Z" } : Jvm.MethodName) prog_7_method_4_code (1 : Nat) (Option.some Jvm.ClassFile.FieldType.boolean)).before args0 about1 = true := code_word (m := ⟨9, 2⟩) (meth := k9m2) (c := k9c2) (by decide +kernel) rfl rfl rfl (by decide +kernel)
set_option maxRecDepth 65536 in
theorem w_c16 : (Jvm.Cond.code ({ cls := "com/example/paniere/paniere/CompactDecimal$Digits", name := "appendDigit", desc := "(I)V" } : Jvm.MethodName) prog_7_method_10_code (4 : Nat) (Option.none : Option Jvm.ClassFile.FieldType)).before args0 about1 = true := code_word (m := ⟨9, 3⟩) (meth := k9m3) (c := k9c3) (by decide +kernel) rfl rfl rfl (by decide +kernel)
set_option maxRecDepth 65536 in
theorem w_c17 : (Jvm.Cond.code ({ cls := "java/lang/Math", name := "max", desc := "(II)I" } : Jvm.MethodName) jdk_29_method_65_code (2 : Nat) (Option.some Jvm.ClassFile.FieldType.int)).before args0 about1 = true := code_word (m := ⟨12, 2⟩) (meth := k12m2) (c := k12c2) (by decide +kernel) rfl rfl rfl (by decide +kernel)
set_option maxRecDepth 65536 in
theorem w_c18 : (Jvm.Cond.code ({ cls := "com/example/paniere/paniere/CompactDecimal", name := "unsignedMultiplyHigh", desc := "(JJ)J" } : Jvm.MethodName) prog_6_method_9_code (4 : Nat) (Option.some Jvm.ClassFile.FieldType.long)).before args0 about1 = true := code_word (m := ⟨13, 1⟩) (meth := k13m1) (c := k13c1) (by decide +kernel) rfl rfl rfl (by decide +kernel)
set_option maxRecDepth 65536 in
theorem w_c19 : (Jvm.Cond.code ({ cls := "java/lang/Math", name := "multiplyHigh", desc := "(JJ)J" } : Jvm.MethodName) jdk_29_method_45_code (20 : Nat) (Option.some Jvm.ClassFile.FieldType.long)).before args0 about1 = true := code_word (m := ⟨12, 1⟩) (meth := k12m1) (c := k12c1) (by decide +kernel) rfl rfl rfl (by decide +kernel)
set_option maxRecDepth 65536 in
theorem w_c20 : (Jvm.Cond.code ({ cls := "com/example/paniere/paniere/CompactDecimal", name := "carryOut", desc := "(JJ)J" } : Jvm.MethodName) prog_6_method_10_code (4 : Nat) (Option.some Jvm.ClassFile.FieldType.long)).before args0 about1 = true := code_word (m := ⟨13, 2⟩) (meth := k13m2) (c := k13c2) (by decide +kernel) rfl rfl rfl (by decide +kernel)
set_option maxRecDepth 65536 in
theorem w_c21 : (Jvm.Cond.code ({ cls := "java/lang/Long", name := "compareUnsigned", desc := "(JJ)I" } : Jvm.MethodName) jdk_35_method_43_code (4 : Nat) (Option.some Jvm.ClassFile.FieldType.int)).before args0 about1 = true := code_word (m := ⟨15, 1⟩) (meth := k15m1) (c := k15c1) (by decide +kernel) rfl rfl rfl (by decide +kernel)
set_option maxRecDepth 65536 in
theorem w_c22 : (Jvm.Cond.code ({ cls := "java/lang/Long", name := "compare", desc := "(JJ)I" } : Jvm.MethodName) jdk_35_method_42_code (4 : Nat) (Option.some Jvm.ClassFile.FieldType.int)).before args0 about1 = true := code_word (m := ⟨15, 0⟩) (meth := k15m0) (c := k15c0) (by decide +kernel) rfl rfl rfl (by decide +kernel)
def codes1 : List Jvm.Cond := [Jvm.Cond.code x code maxLocals ret, Jvm.Cond.code ({ cls := "com/example/paniere/paniere/DigitsInTwoLongsPinLaw", name := "ch", desc := "(IIIZIJ)C" } : Jvm.MethodName) method_2_code (8 : Nat) (Option.some Jvm.ClassFile.FieldType.char), Jvm.Cond.code ({ cls := "java/lang/String", name := "<init>", desc := "([C)V" } : Jvm.MethodName) jdk_42_method_3_code (2 : Nat) (Option.none : Option Jvm.ClassFile.FieldType), Jvm.Cond.code ({ cls := "java/lang/String", name := "<init>", desc := "([CIILjava/lang/Void;)V" } : Jvm.MethodName) jdk_42_method_149_code (6 : Nat) (Option.none : Option Jvm.ClassFile.FieldType), Jvm.Cond.code ({ cls := "java/lang/Object", name := "<init>", desc := "()V" } : Jvm.MethodName) object_method_1_code (1 : Nat) (Option.none : Option Jvm.ClassFile.FieldType), Jvm.Cond.code ({ cls := "java/lang/StringUTF16", name := "compress", desc := "([CII)[B" } : Jvm.MethodName) jdk_52_method_16_code (6 : Nat) (Option.some (Jvm.ClassFile.FieldType.array Jvm.ClassFile.FieldType.byte)), Jvm.Cond.code ({ cls := "java/lang/StringUTF16", name := "compress", desc := "([CI[BII)I" } : Jvm.MethodName) jdk_52_method_21_code (7 : Nat) (Option.some Jvm.ClassFile.FieldType.int), Jvm.Cond.code ({ cls := "java/lang/StringUTF16", name := "coderFromArrayLen", desc := "([BI)B" } : Jvm.MethodName) jdk_52_method_15_code (2 : Nat) (Option.some Jvm.ClassFile.FieldType.byte), Jvm.Cond.code ({ cls := "com/example/paniere/paniere/CompactDecimal$Digits", name := "<init>", desc := "()V" } : Jvm.MethodName) prog_7_method_1_code (1 : Nat) (Option.none : Option Jvm.ClassFile.FieldType), Jvm.Cond.code ({ cls := "com/example/paniere/paniere/CompactDecimal$Digits", name := "read", desc := "(Ljava/lang/String;II)V" } : Jvm.MethodName) prog_7_method_2_code (6 : Nat) (Option.none : Option Jvm.ClassFile.FieldType), Jvm.Cond.code ({ cls := "java/lang/String", name := "charAt", desc := "(I)C" } : Jvm.MethodName) jdk_42_method_56_code (2 : Nat) (Option.some Jvm.ClassFile.FieldType.char), Jvm.Cond.code ({ cls := "java/lang/String", name := "isLatin1", desc := "()Z" } : Jvm.MethodName) jdk_42_method_154_code (1 : Nat) (Option.some Jvm.ClassFile.FieldType.boolean), Jvm.Cond.code ({ cls := "java/lang/StringLatin1", name := "charAt", desc := "([BI)C" } : Jvm.MethodName) jdk_43_method_2_code (2 : Nat) (Option.some Jvm.ClassFile.FieldType.char), Jvm.Cond.code ({ cls := "java/lang/String", name := "checkIndex", desc := "(II)V" } : Jvm.MethodName) jdk_42_method_155_code (2 : Nat) (Option.none : Option Jvm.ClassFile.FieldType), Jvm.Cond.code ({ cls := "jdk/internal/util/Preconditions", name := "checkIndex", desc := "(IILjava/util/function/BiFunction;)I" } : Jvm.MethodName) jdk_41_method_11_code (3 : Nat) (Option.some Jvm.ClassFile.FieldType.int), Jvm.Cond.code ({ cls := "com/example/paniere/paniere/CompactDecimal$Digits", name := "inTwoLongs", desc := "()Z" } : Jvm.MethodName) prog_7_method_4_code (1 : Nat) (Option.some Jvm.ClassFile.FieldType.boolean), Jvm.Cond.code ({ cls := "com/example/paniere/paniere/CompactDecimal$Digits", name := "appendDigit", desc := "(I)V" } : Jvm.MethodName) prog_7_method_10_code (4 : Nat) (Option.none : Option Jvm.ClassFile.FieldType), Jvm.Cond.code ({ cls := "java/lang/Math", name := "max", desc := "(II)I" } : Jvm.MethodName) jdk_29_method_65_code (2 : Nat) (Option.some Jvm.ClassFile.FieldType.int), Jvm.Cond.code ({ cls := "com/example/paniere/paniere/CompactDecimal", name := "unsignedMultiplyHigh", desc := "(JJ)J" } : Jvm.MethodName) prog_6_method_9_code (4 : Nat) (Option.some Jvm.ClassFile.FieldType.long), Jvm.Cond.code ({ cls := "java/lang/Math", name := "multiplyHigh", desc := "(JJ)J" } : Jvm.MethodName) jdk_29_method_45_code (20 : Nat) (Option.some Jvm.ClassFile.FieldType.long), Jvm.Cond.code ({ cls := "com/example/paniere/paniere/CompactDecimal", name := "carryOut", desc := "(JJ)J" } : Jvm.MethodName) prog_6_method_10_code (4 : Nat) (Option.some Jvm.ClassFile.FieldType.long), Jvm.Cond.code ({ cls := "java/lang/Long", name := "compareUnsigned", desc := "(JJ)I" } : Jvm.MethodName) jdk_35_method_43_code (4 : Nat) (Option.some Jvm.ClassFile.FieldType.int), Jvm.Cond.code ({ cls := "java/lang/Long", name := "compare", desc := "(JJ)I" } : Jvm.MethodName) jdk_35_method_42_code (4 : Nat) (Option.some Jvm.ClassFile.FieldType.int)]
set_option maxRecDepth 65536 in
theorem codes_eq : words1.filter isCode = codes1 := rfl
theorem w_codes : ∀ c ∈ words1.filter isCode, c.before args0 about1 = true := by
  rw [codes_eq]
  intro c hc
  simp only [codes1, List.mem_cons, List.not_mem_nil, or_false] at hc
  rcases hc with rfl | rfl | rfl | rfl | rfl | rfl | rfl | rfl | rfl | rfl | rfl | rfl | rfl | rfl | rfl | rfl | rfl | rfl | rfl | rfl | rfl | rfl | rfl
  · exact w_c0
  · exact w_c1
  · exact w_c2
  · exact w_c3
  · exact w_c4
  · exact w_c5
  · exact w_c6
  · exact w_c7
  · exact w_c8
  · exact w_c9
  · exact w_c10
  · exact w_c11
  · exact w_c12
  · exact w_c13
  · exact w_c14
  · exact w_c15
  · exact w_c16
  · exact w_c17
  · exact w_c18
  · exact w_c19
  · exact w_c20
  · exact w_c21
  · exact w_c22
set_option maxRecDepth 65536 in
theorem w_t1 : (words1.take 24).all (fun c => isCode c || c.before args0 about1) = true := by decide +kernel
set_option maxRecDepth 65536 in
theorem w_t2 : ((words1.drop 24).take 24).all (fun c => isCode c || c.before args0 about1) = true := by decide +kernel
set_option maxRecDepth 65536 in
theorem w_t3 : (((words1.drop 24).drop 24).take 24).all (fun c => isCode c || c.before args0 about1) = true := by decide +kernel
set_option maxRecDepth 65536 in
theorem w_t4 : ((((words1.drop 24).drop 24).drop 24).take 24).all (fun c => isCode c || c.before args0 about1) = true := by decide +kernel
set_option maxRecDepth 65536 in
theorem w_t5 : ((((words1.drop 24).drop 24).drop 24).drop 24).all (fun c => isCode c || c.before args0 about1) = true := by decide +kernel
theorem w_tables : (allAtoms (Jvm.Cond.code x code maxLocals ret :: tables_1)).before args0 about1 = true := by
  rw [allAtoms_all]
  show words1.all (fun c => c.before args0 about1) = true
  refine all_split ?_ w_codes
  rw [← List.take_append_drop 24 words1, List.all_append, w_t1, ← List.take_append_drop 24 (words1.drop 24), List.all_append, w_t2, ← List.take_append_drop 24 ((words1.drop 24).drop 24), List.all_append, w_t3, ← List.take_append_drop 24 (((words1.drop 24).drop 24).drop 24), List.all_append, w_t4, w_t5]
  rfl
set_option maxRecDepth 65536 in
theorem w_rest : rest_1_c.before args0 about1 = true := by decide +kernel
set_option maxRecDepth 65536 in
theorem w_case : (Jvm.Cond.and given_1 narrow_1).before args0 about1 = true := by decide +kernel
theorem w_applies : (headSpec (Jvm.Cond.code x code maxLocals ret :: tables_1) room_1).applies x e0.platform about1 = true :=
  (Spec.applies_iff w_frames).mpr ⟨w_running, w_runnable, w_alone, w_named, w_hears, w_ripe, w_room, w_tables⟩
theorem atStart : AtStart classFile x code maxLocals ret World_1 tables_1 room_1 Calls_1 rest_1 Pre_1 launch0 p0 e0 about1 theMethod args0 below0 :=
  ⟨lists_1, trivial, launch0.admits_env _ _ _, launch0.least_env, fairChoices_fair.cas, fairChoices_fair.clock, w_frames, w_args, w_heap, w_applies, trivial, w_rest, w_case⟩
end start1
theorem witness_1 : WitnessClaimed_1 := ⟨start1.p0, start1.e0, start1.about1, start1.theMethod, start1.args0, start1.below0, start1.atStart⟩
end Jvm.Pilot.@@N@@
