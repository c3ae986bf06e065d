import JvmDerived
import JvmDerived.Pilot.@@N@@Statement
import JvmDerived.Pilot.@@N@@Code
set_option linter.unusedVariables false
set_option linter.unusedSimpArgs false
namespace Jvm.RoadKit
open Sem ClassFile Op Lib Jvm.Stand Jvm.Free Jvm.LawKit
theorem own_lrem_eq (x y : Int64) : x - x / y * y = x % y := by
  have h1 := Int64.le_toInt (x % y)
  have h2 := Int64.toInt_lt (x % y)
  have h3 : x.toInt - x.toInt.tdiv y.toInt * y.toInt = (x % y).toInt := by
    rw [Int64.toInt_mod, Int.mul_comm, ← Int.tmod_def]
  apply Int64.toInt_inj.mp
  rw [Int64.toInt_sub, Int64.toInt_mul, Int64.toInt_div, Int.bmod_mul_bmod, Int.sub_bmod_bmod, h3]
  exact Int.bmod_eq_of_le_mul_two (by omega) (by omega)
theorem own_lremM {p : Program} {l : Launch} {e : Env} {R : Room} {s : State} {m : MethodId} {args : Array Value} {below : List Frame} {meth : Method} {c : Code} {T : State} {locs : List Loc} {cells slots : Nat} {g : JFrame} {target : State} (X : Stand p l e R s m args below meth c T locs cells slots) (hx : p.tables.exec = Jvm.exec) (hg : g.method = m) {x y : Int64} {rest : List Value} (hd : decode c.code g.pc = .ok (.lrem, 1)) (hs : g.stack = .long y :: .long x :: rest) (hy : y ≠ 0)
    (hr : Steps p.tables e below (T.setTop { g with pc := g.pc + 1, stack := .long (x % y) :: rest }) target) : Steps p.tables e below (T.setTop g) target :=
  XS.lrem X.here hx hg hd hs hy (by rw [own_lrem_eq x y]; exact hr)
end Jvm.RoadKit
/- laws to paste: Road.backV, Road.lenW, Road.chN, Road.empW, Road.codOf (cut by pick.py; bodies as the Statement names them) -/
namespace Jvm.Pilot.@@N@@
namespace StrChars
open Jvm Sem ClassFile Op Lib Jvm.Stand Jvm.Free.XT Jvm.Free.ALB Jvm.Free.JM Jvm.Free
open Jvm.Lib.Cold (StaticIs)
/-- a char array whose places are chars -/
def Ch (a : Addr) (A : Cell) (U : State) : Prop := Arr .char a A U ∧ Typed .char A
theorem Ch.mv {a : Addr} {A : Cell} {U U' : State} (h : Ch a A U) (hal : U.vm.Alike U'.vm) (hh : U'.heap = U.heap) : Ch a A U' := ⟨h.1.mv hal hh, h.2⟩
theorem Ch.keep {a : Addr} {A : Cell} {U U' : State} (h : Ch a A U) (hal : U.vm.Alike U'.vm) (hk : U'.heap[a]? = some A) : Ch a A U' := ⟨h.1.keep hal hk, h.2⟩
/-- what place i of a char[]'s cell holds -/
def cv (A : Cell) (i : Nat) : Int32 := match A.slots[i]? with | some (.int x) => x | _ => 0
theorem Ch.get {a : Addr} {A : Cell} {U : State} (h : Ch a A U) {i : Nat} (hi : i < A.slots.size) : A.slots[i]? = some (.int (cv A i)) := by
  have e := Array.getElem?_eq_getElem hi
  have f := h.2 i _ e
  unfold cv; rw [e]
  generalize A.slots[i] = v at f
  cases v <;> simp [fits] at f ⊢
/-- the byte that i2b leaves of a char -/
def lo8 (x : Int32) : Int32 := x.toInt8.toInt32
theorem fits_lo8 (y : Int32) : fits .byte (.int (lo8 y)) = true := by
  have h1 := y.toInt8.le_toInt
  have h2 := y.toInt8.toInt_lt
  simp only [lo8, fits, Bool.and_eq_true, decide_eq_true_eq, Int32.le_iff_toInt_le, Int8.toInt_toInt32, show (-128 : Int32).toInt = -128 from by decide, show (127 : Int32).toInt = 127 from by decide]
  omega
/-- A' is A but that each place j of lo .. hi - 1 holds f j -/
def Laid (A A' : Cell) (lo hi : Nat) (f : Nat → Value) : Prop := A'.cls = A.cls ∧ A'.vm = A.vm ∧ A'.slots.size = A.slots.size ∧ ∀ i, A'.slots[i]? = if lo ≤ i ∧ i < hi then some (f i) else A.slots[i]?
theorem Laid.zero (A : Cell) (lo : Nat) (f : Nat → Value) : Laid A A lo (lo + 0) f := ⟨rfl, rfl, rfl, fun i => by rw [if_neg (by omega)]⟩
theorem Laid.step {A Ak : Cell} {lo k : Nat} {f : Nat → Value} {v : Value} (h : Laid A Ak lo k f) (hlo : lo ≤ k) (hk : k < Ak.slots.size) (hv : v = f k) : Laid A (Ak.setSlot k v) lo (k + 1) f := by
  refine ⟨h.1, h.2.1, by simpa [Cell.setSlot] using h.2.2.1, fun i => ?_⟩
  by_cases e : k = i
  · subst e; rw [Cell.slots_setSlot_self v hk, if_pos (by omega), hv]
  · rw [Cell.slots_setSlot_ne v e, h.2.2.2 i]
    by_cases q : lo ≤ i ∧ i < k
    · rw [if_pos q, if_pos (by omega)]
    · rw [if_neg q, if_neg (by omega)]
def U16 : String := "java/lang/StringUTF16"
namespace Cmp5
def yN : MethodName := ⟨"java/lang/StringUTF16", "compress", "([CI[BII)I"⟩
abbrev yB : ByteArray := jdk_52_method_21_code
theorem d0 : decode yB 0 = .ok (.iconst 0, 1) := by decide +kernel
theorem d1 : decode yB 1 = .ok (.istore 5, 2) := by decide +kernel
theorem d3 : decode yB 3 = .ok (.iload 5, 2) := by decide +kernel
theorem d5 : decode yB 5 = .ok (.iload 4, 2) := by decide +kernel
theorem d7 : decode yB 7 = .ok (.if_icmp (.ge) 37, 3) := by decide +kernel
theorem d10 : decode yB 10 = .ok (.aload_n 0, 1) := by decide +kernel
theorem d11 : decode yB 11 = .ok (.iload_n 1, 1) := by decide +kernel
theorem d12 : decode yB 12 = .ok (.caload, 1) := by decide +kernel
theorem d13 : decode yB 13 = .ok (.istore 6, 2) := by decide +kernel
theorem d15 : decode yB 15 = .ok (.iload 6, 2) := by decide +kernel
theorem d17 : decode yB 17 = .ok (.sipush 255, 3) := by decide +kernel
theorem d20 : decode yB 20 = .ok (.if_icmp (.le) 6, 3) := by decide +kernel
theorem d26 : decode yB 26 = .ok (.aload_n 2, 1) := by decide +kernel
theorem d27 : decode yB 27 = .ok (.iload_n 3, 1) := by decide +kernel
theorem d28 : decode yB 28 = .ok (.iload 6, 2) := by decide +kernel
theorem d30 : decode yB 30 = .ok (.i2b, 1) := by decide +kernel
theorem d31 : decode yB 31 = .ok (.bastore, 1) := by decide +kernel
theorem d32 : decode yB 32 = .ok (.iinc 1 1, 3) := by decide +kernel
theorem d35 : decode yB 35 = .ok (.iinc 3 1, 3) := by decide +kernel
theorem d38 : decode yB 38 = .ok (.iinc 5 1, 3) := by decide +kernel
theorem d41 : decode yB 41 = .ok (.goto (-38), 3) := by decide +kernel
theorem d44 : decode yB 44 = .ok (.iload 4, 2) := by decide +kernel
theorem d46 : decode yB 46 = .ok (.ireturn, 1) := by decide +kernel
def site : List Cond := []
def tab : Cond := tabOf yN yB 7 (some .int) site
def P (b : Addr) (A : Cell) (d : Addr) (B : Cell) (o q len : Nat) (args : Array Value) (s : State) : Prop := args = #[.ref b, .int (Int32.ofNat o), .ref d, .int (Int32.ofNat q), .int (Int32.ofNat len)] ∧ Ch b A s ∧ Arr .byte d B s ∧ b ≠ d ∧ o + len ≤ A.slots.size ∧ q + len ≤ B.slots.size ∧ ∀ i, i < len → ¬ 255 < cv A (o + i)
def E (b : Addr) (A : Cell) (d : Addr) (B : Cell) (o q len : Nat) (r : Option Value) (s u : State) : Prop := r = some (.int (Int32.ofNat len)) ∧ ∃ B', Put d B' s u ∧ Laid B B' q (q + len) (fun j => Value.int (lo8 (cv A (o + (j - q)))))
/-- no char of the range above 255: len; the places written hold each char's low byte -/
theorem law (l : Launch) (b : Addr) (A : Cell) (d : Addr) (B : Cell) (o q len : Nat) : Law l yN 5 5 0 0 yB 7 (some .int) site (P b A d B o q len) (E b A d B o q len) (copyLocs d q len) 0 0 := by
  refine Law.of_walk (plainFor_of_name (by decide +kernel)) (by decide +kernel) (by decide +kernel) (by decide) (fun _ _ h => by rw [h.1]; rfl) (fun _ U U' hal hh h => ⟨h.1, h.2.1.mv hal hh, h.2.2.1.mv hal hh, h.2.2.2⟩) (fun r U U' V V' h1 hal h2 h => ⟨h.1, h.2.elim fun B' q => ⟨B', q.1.mv h1 h2, q.2⟩⟩) ?_
  intro p e s m args below meth c s₁ X0 hexec hbytes hml hret hlk hnm hown hh0 W hP
  obtain ⟨rfl, hA, hB, hne, l1, l2, hp⟩ := hP
  have c1 : Steps p.tables e below (s₁.setTop (entryFrame m #[.ref b, .int (Int32.ofNat o), .ref d, .int (Int32.ofNat q), .int (Int32.ofNat len)] 7)) (s₁.setTop (mkF m 0 #[.val (.ref b), .val (.int (Int32.ofNat o)), .val (.ref d), .val (.int (Int32.ofNat q)), .val (.int (Int32.ofNat len)), .unset, .unset] [])) := entry rfl
  have hA0 := hA.1.mv X0.warmed.alike hh0
  have hB0 := hB.mv X0.warmed.alike hh0
  have a31 := hA.1.2.2.2
  have c2 : Steps p.tables e below (s₁.setTop (entryFrame m #[.ref b, .int (Int32.ofNat o), .ref d, .int (Int32.ofNat q), .int (Int32.ofNat len)] 7)) (s₁.setTop (mkF m 3 #[.val (.ref b), .val (.int (Int32.ofNat o)), .val (.ref d), .val (.int (Int32.ofNat q)), .val (.int (Int32.ofNat len)), .val (.int 0), .unset] [])) := c1.trans (by
    refine iconstV X0.here hexec rfl 0 (hb hbytes d0) (by decide) ?_
    refine XS.istore X0.here hexec rfl (hb hbytes d1) rfl rfl ?_
    exact Steps.refl _)
  have loop : ∀ (r i : Nat), i + r = len → ∀ (z : Slot), (z = .unset ∨ ∃ w, z = .val w ∧ w.category = 1) → ∀ (Tl : State) (Bk : Cell), Stand p l e { frames := 0, locals := 0, cells := 0, slots := 0 } s m #[.ref b, .int (Int32.ofNat o), .ref d, .int (Int32.ofNat q), .int (Int32.ofNat len)] below meth c Tl ([] ++ copyLocs d q i) 0 0 → Put d Bk s₁ Tl → Laid B Bk q (q + i) (fun j => Value.int (lo8 (cv A (o + (j - q))))) →
      Steps p.tables e below (s₁.setTop (entryFrame m #[.ref b, .int (Int32.ofNat o), .ref d, .int (Int32.ofNat q), .int (Int32.ofNat len)] 7)) (Tl.setTop (mkF m 3 #[.val (.ref b), .val (.int (Int32.ofNat (o + i))), .val (.ref d), .val (.int (Int32.ofNat (q + i))), .val (.int (Int32.ofNat len)), .val (.int (Int32.ofNat i)), z] [])) → ∃ (T' : State) (B' : Cell) (z' : Slot), Stand p l e { frames := 0, locals := 0, cells := 0, slots := 0 } s m #[.ref b, .int (Int32.ofNat o), .ref d, .int (Int32.ofNat q), .int (Int32.ofNat len)] below meth c T' ([] ++ copyLocs d q len) 0 0 ∧ Put d B' s₁ T' ∧ Laid B B' q (q + len) (fun j => Value.int (lo8 (cv A (o + (j - q))))) ∧
      Steps p.tables e below (s₁.setTop (entryFrame m #[.ref b, .int (Int32.ofNat o), .ref d, .int (Int32.ofNat q), .int (Int32.ofNat len)] 7)) (T'.setTop (mkF m 3 #[.val (.ref b), .val (.int (Int32.ofNat (o + len))), .val (.ref d), .val (.int (Int32.ofNat (q + len))), .val (.int (Int32.ofNat len)), .val (.int (Int32.ofNat len)), z'] [])) := by
    intro r
    induction r with
    | zero =>
      intro i hi z hz Tl Bk Xl pl fl cl
      have hil : i = len := by omega
      rw [hil] at Xl fl cl
      exact ⟨Tl, Bk, z, Xl, pl, fl, cl⟩
    | succ r ih =>
      intro i hi z hz Tl Bk Xl pl fl cl
      have all := X0.warmed.alike.symm.trans Xl.warmed.alike
      have hAl := hA0.keep all (pl.other hne hA0.1)
      have hBk := hB0.like all pl.1 fl.1 fl.2.1 fl.2.2.1
      have hlt : q + i < Bk.slots.size := by rw [fl.2.2.1]; omega
      have c3 : Steps p.tables e below (s₁.setTop (entryFrame m #[.ref b, .int (Int32.ofNat o), .ref d, .int (Int32.ofNat q), .int (Int32.ofNat len)] 7)) (Tl.setTop (mkF m 12 #[.val (.ref b), .val (.int (Int32.ofNat (o + i))), .val (.ref d), .val (.int (Int32.ofNat (q + i))), .val (.int (Int32.ofNat len)), .val (.int (Int32.ofNat i)), z] [.int (Int32.ofNat (o + i)), .ref b])) := cl.trans (by
        refine XS.iload Xl.here hexec rfl (hb hbytes d3) rfl ?_
        refine XS.iload Xl.here hexec rfl (hb hbytes d5) rfl ?_
        refine XS.icmpNo Xl.here hexec rfl (hb hbytes d7) rfl (ii_ge_f (lt32 (by omega) (by omega))) ?_
        refine XS.aloadN Xl.here hexec rfl (hb hbytes d10) rfl rfl ?_
        refine XS.iloadN Xl.here hexec rfl (hb hbytes d11) rfl ?_
        exact Steps.refl _)
      have c4 : Steps p.tables e below (s₁.setTop (entryFrame m #[.ref b, .int (Int32.ofNat o), .ref d, .int (Int32.ofNat q), .int (Int32.ofNat len)] 7)) (Tl.setTop (mkF m 13 #[.val (.ref b), .val (.int (Int32.ofNat (o + i))), .val (.ref d), .val (.int (Int32.ofNat (q + i))), .val (.int (Int32.ofNat len)), .val (.int (Int32.ofNat i)), z] [.int (cv A (o + i))])) := c3.trans (by
        refine Xl.aget hexec hAl rfl (hA.get (i := o + i) (by omega)) rfl rfl (hb hbytes d12) ?_
        exact Steps.refl _)
      have c5 : Steps p.tables e below (s₁.setTop (entryFrame m #[.ref b, .int (Int32.ofNat o), .ref d, .int (Int32.ofNat q), .int (Int32.ofNat len)] 7)) (Tl.setTop (mkF m 15 #[.val (.ref b), .val (.int (Int32.ofNat (o + i))), .val (.ref d), .val (.int (Int32.ofNat (q + i))), .val (.int (Int32.ofNat len)), .val (.int (Int32.ofNat i)), .val (.int (cv A (o + i)))] [])) := c4.trans (by
        refine XS.istoreS Xl.here hexec rfl (hb hbytes d13) rfl rfl hz ?_
        exact Steps.refl _)
      have c6 : Steps p.tables e below (s₁.setTop (entryFrame m #[.ref b, .int (Int32.ofNat o), .ref d, .int (Int32.ofNat q), .int (Int32.ofNat len)] 7)) (Tl.setTop (mkF m 31 #[.val (.ref b), .val (.int (Int32.ofNat (o + i))), .val (.ref d), .val (.int (Int32.ofNat (q + i))), .val (.int (Int32.ofNat len)), .val (.int (Int32.ofNat i)), .val (.int (cv A (o + i)))] [.int (lo8 (cv A (o + i))), .int (Int32.ofNat (q + i)), .ref d])) := c5.trans (by
        refine XS.iload Xl.here hexec rfl (hb hbytes d15) rfl ?_
        refine sipushV Xl.here hexec rfl 255 (hb hbytes d17) (by decide) ?_
        refine XS.icmpYes Xl.here hexec rfl (pc0 := 20) rfl (hb hbytes d20) rfl (ii_le_t (hp i (by omega))) (by decide) rfl ?_
        refine XS.aloadN Xl.here hexec rfl (hb hbytes d26) rfl rfl ?_
        refine XS.iloadN Xl.here hexec rfl (hb hbytes d27) rfl ?_
        refine XS.iload Xl.here hexec rfl (hb hbytes d28) rfl ?_
        refine i2b Xl.here hexec rfl (hb hbytes d30) rfl ?_
        exact Steps.refl _)
      obtain ⟨T7, X7, p7, st7⟩ := Xl.aput hexec hBk rfl hlt rfl (fits_lo8 (cv A (o + i))) (g := (mkF m 31 #[.val (.ref b), .val (.int (Int32.ofNat (o + i))), .val (.ref d), .val (.int (Int32.ofNat (q + i))), .val (.int (Int32.ofNat len)), .val (.int (Int32.ofNat i)), .val (.int (cv A (o + i)))] [.int (lo8 (cv A (o + i))), .int (Int32.ofNat (q + i)), .ref d])) rfl (rest := []) rfl (hb hbytes d31)
      have c8 : Steps p.tables e below (s₁.setTop (entryFrame m #[.ref b, .int (Int32.ofNat o), .ref d, .int (Int32.ofNat q), .int (Int32.ofNat len)] 7)) (T7.setTop (mkF m 32 #[.val (.ref b), .val (.int (Int32.ofNat (o + i))), .val (.ref d), .val (.int (Int32.ofNat (q + i))), .val (.int (Int32.ofNat len)), .val (.int (Int32.ofNat i)), .val (.int (cv A (o + i)))] [])) := c6.trans (st7 _ (Steps.refl _))
      have c9 : Steps p.tables e below (s₁.setTop (entryFrame m #[.ref b, .int (Int32.ofNat o), .ref d, .int (Int32.ofNat q), .int (Int32.ofNat len)] 7)) (T7.setTop (mkF m 3 #[.val (.ref b), .val (.int (Int32.ofNat (o + i) + 1)), .val (.ref d), .val (.int (Int32.ofNat (q + i) + 1)), .val (.int (Int32.ofNat len)), .val (.int (Int32.ofNat i + 1)), .val (.int (cv A (o + i)))] [])) := c8.trans (by
        refine iincV X7.here hexec rfl 1 (hb hbytes d32) (by decide) rfl rfl ?_
        refine iincV X7.here hexec rfl 1 (hb hbytes d35) (by decide) rfl rfl ?_
        refine iincV X7.here hexec rfl 1 (hb hbytes d38) (by decide) rfl rfl ?_
        refine XS.goto X7.here hexec rfl (pc0 := 41) rfl (hb hbytes d41) (by decide) rfl ?_
        exact Steps.refl _)
      have c10 : Steps p.tables e below (s₁.setTop (entryFrame m #[.ref b, .int (Int32.ofNat o), .ref d, .int (Int32.ofNat q), .int (Int32.ofNat len)] 7)) (T7.setTop (mkF m 3 #[.val (.ref b), .val (.int (Int32.ofNat (o + (i + 1)))), .val (.ref d), .val (.int (Int32.ofNat (q + (i + 1)))), .val (.int (Int32.ofNat len)), .val (.int (Int32.ofNat (i + 1))), .val (.int (cv A (o + i)))] [])) := by
        have := c9
        rw [succ32, succ32, succ32] at this
        exact this
      exact ih (i + 1) (by omega) _ (Or.inr ⟨_, rfl, rfl⟩) T7 _ (by rw [copyLocs_step, ← List.append_assoc]; exact X7) (pl.trans p7) (fl.step (by omega) hlt (by simp)) c10
  obtain ⟨T9, B9, z9, X9, p9, f9, g9⟩ := loop len 0 (by omega) .unset (Or.inl rfl) s₁ B (by simpa [copyLocs] using X0) ⟨hB0.1, fun _ _ => rfl, rfl⟩ (Laid.zero _ _ _) c2
  have c11 : Steps p.tables e below (s₁.setTop (entryFrame m #[.ref b, .int (Int32.ofNat o), .ref d, .int (Int32.ofNat q), .int (Int32.ofNat len)] 7)) (T9.setTop (mkF m 46 #[.val (.ref b), .val (.int (Int32.ofNat (o + len))), .val (.ref d), .val (.int (Int32.ofNat (q + len))), .val (.int (Int32.ofNat len)), .val (.int (Int32.ofNat len)), z9] [.int (Int32.ofNat len)])) := g9.trans (by
    refine XS.iload X9.here hexec rfl (hb hbytes d3) rfl ?_
    refine XS.iload X9.here hexec rfl (hb hbytes d5) rfl ?_
    refine XS.icmpYes X9.here hexec rfl (pc0 := 7) rfl (hb hbytes d7) rfl (ii_ge_t (nlt32 (by omega) (Nat.le_refl _))) (by decide) rfl ?_
    refine XS.iload X9.here hexec rfl (hb hbytes d44) rfl ?_
    exact Steps.refl _)
  exact ⟨T9, some (.int (Int32.ofNat len)), _, _, _, X9, by simp, rfl, rfl, (fun h => by cases h), ⟨rfl, B9, p9.from hh0, f9⟩, fun fs hl => c11.trans (X9.ireturnOut hexec hret rfl (Or.inl rfl) (hb hbytes d46) hl)⟩
end Cmp5
namespace Cmp3
def yN : MethodName := ⟨"java/lang/StringUTF16", "compress", "([CII)[B"⟩
abbrev yB : ByteArray := jdk_52_method_16_code
theorem d0 : decode yB 0 = .ok (.iload_n 2, 1) := by decide +kernel
theorem d1 : decode yB 1 = .ok (.newarray .byte, 2) := by decide +kernel
theorem d3 : decode yB 3 = .ok (.astore_n 3, 1) := by decide +kernel
theorem d4 : decode yB 4 = .ok (.aload_n 0, 1) := by decide +kernel
theorem d5 : decode yB 5 = .ok (.iload_n 1, 1) := by decide +kernel
theorem d6 : decode yB 6 = .ok (.aload_n 3, 1) := by decide +kernel
theorem d7 : decode yB 7 = .ok (.iconst 0, 1) := by decide +kernel
theorem d8 : decode yB 8 = .ok (.iload_n 2, 1) := by decide +kernel
theorem d9 : decode yB 9 = .ok (.invokestatic 115, 3) := by decide +kernel
theorem d12 : decode yB 12 = .ok (.istore 4, 2) := by decide +kernel
theorem d14 : decode yB 14 = .ok (.iload 4, 2) := by decide +kernel
theorem d16 : decode yB 16 = .ok (.iload_n 2, 1) := by decide +kernel
theorem d17 : decode yB 17 = .ok (.if_icmp (.eq) 40, 3) := by decide +kernel
theorem d57 : decode yB 57 = .ok (.aload_n 3, 1) := by decide +kernel
theorem d58 : decode yB 58 = .ok (.areturn, 1) := by decide +kernel
def site : List Cond := [.arrayClass .byte, Cmp5.tab] ++ staticW U16 115 Cmp5.yN
def tab : Cond := tabOf yN yB 6 (some (.array .byte)) site
def P (b : Addr) (A : Cell) (o len : Nat) (args : Array Value) (s : State) : Prop := args = #[.ref b, .int (Int32.ofNat o), .int (Int32.ofNat len)] ∧ Ch b A s ∧ o + len ≤ A.slots.size ∧ len ≤ 536870912 ∧ ∀ i, i < len → ¬ 255 < cv A (o + i)
def E (b : Addr) (A : Cell) (o len : Nat) (r : Option Value) (s u : State) : Prop := NewArr .byte "[B" len (fun j => .int (lo8 (cv A (o + j)))) r s u ∧ u.heap.size = s.heap.size + 1
/-- no char of the range above 255: a new byte[] of their low bytes -/
theorem law (l : Launch) (b : Addr) (A : Cell) (o len : Nat) : Law l yN 3 3 1 18 yB 6 (some (.array .byte)) site (P b A o len) (E b A o len) [] 1 len := by
  refine Law.of_walk (plainFor_of_name (by decide +kernel)) (by decide +kernel) (by decide +kernel) (by decide) (fun _ _ h => by rw [h.1]; rfl) (fun _ U U' hal hh h => ⟨h.1, h.2.1.mv hal hh, h.2.2⟩) (fun r U U' V V' h1 hal h2 h => ⟨NewArr.mv r U U' V V' h1 hal h2 h.1, by rw [h1, h2]; exact h.2⟩) ?_
  intro p e s m args below meth c s₁ X0 hexec hbytes hml hret hlk hnm hown hh0 W hP
  obtain ⟨rfl, hA, l1, l2, hp⟩ := hP
  have a31 := hA.1.2.2.2
  have c1 : Steps p.tables e below (s₁.setTop (entryFrame m #[.ref b, .int (Int32.ofNat o), .int (Int32.ofNat len)] 6)) (s₁.setTop (mkF m 0 #[.val (.ref b), .val (.int (Int32.ofNat o)), .val (.int (Int32.ofNat len)), .unset, .unset, .unset] [])) := entry rfl
  have c2 : Steps p.tables e below (s₁.setTop (entryFrame m #[.ref b, .int (Int32.ofNat o), .int (Int32.ofNat len)] 6)) (s₁.setTop (mkF m 1 #[.val (.ref b), .val (.int (Int32.ofNat o)), .val (.int (Int32.ofNat len)), .unset, .unset, .unset] [.int (Int32.ofNat len)])) := c1.trans (by
    refine XS.iloadN X0.here hexec rfl (hb hbytes d0) rfl ?_
    exact Steps.refl _)
  obtain ⟨T3, B3, X3, ba3, bs3, bv3, bh3, bf3, st3⟩ := X0.anew hexec (atype := .byte) (wk W (.arrayClass .byte)) rfl (by show len * 1 ≤ _; omega) (by omega) (g := (mkF m 1 #[.val (.ref b), .val (.int (Int32.ofNat o)), .val (.int (Int32.ofNat len)), .unset, .unset, .unset] [.int (Int32.ofNat len)])) rfl (hb hbytes d1) (rest := []) rfl (Nat.le_refl _) (by show 0 + len ≤ len; omega)
  rw [hh0] at ba3 st3
  have kp3 : XT.Kept s T3 := (XT.Kept.of_eq hh0).push bh3
  have hA3 := hA.keep X3.warmed.alike (kp3 _ _ hA.1.1)
  have hne : b ≠ s.heap.size := hA.1.ne
  have c4 : Steps p.tables e below (s₁.setTop (entryFrame m #[.ref b, .int (Int32.ofNat o), .int (Int32.ofNat len)] 6)) (T3.setTop (mkF m 3 #[.val (.ref b), .val (.int (Int32.ofNat o)), .val (.int (Int32.ofNat len)), .unset, .unset, .unset] [.ref s.heap.size])) := c2.trans (st3 _ (Steps.refl _))
  have c5 : Steps p.tables e below (s₁.setTop (entryFrame m #[.ref b, .int (Int32.ofNat o), .int (Int32.ofNat len)] 6)) (T3.setTop (mkF m 9 #[.val (.ref b), .val (.int (Int32.ofNat o)), .val (.int (Int32.ofNat len)), .val (.ref s.heap.size), .unset, .unset] [.int (Int32.ofNat len), .int 0, .ref s.heap.size, .int (Int32.ofNat o), .ref b])) := c4.trans (by
    refine XS.astoreN X3.here hexec rfl (hb hbytes d3) rfl rfl rfl ?_
    refine XS.aloadN X3.here hexec rfl (hb hbytes d4) rfl rfl ?_
    refine XS.iloadN X3.here hexec rfl (hb hbytes d5) rfl ?_
    refine XS.aloadN X3.here hexec rfl (hb hbytes d6) rfl rfl ?_
    refine iconstV X3.here hexec rfl 0 (hb hbytes d7) (by decide) ?_
    refine XS.iloadN X3.here hexec rfl (hb hbytes d8) rfl ?_
    exact Steps.refl _)
  obtain ⟨v6, T6, X6, E6, g6⟩ := X3.callS hexec (Cmp5.law l b A s.heap.size B3 o 0 len) hown (wks W (staticW U16 115 Cmp5.yN)) (wk W Cmp5.tab) (W := 0) (Nat.le_of_ble_eq_true rfl) (Nat.le_of_ble_eq_true rfl) (Nat.le_refl _) (by show 0 + len + 0 ≤ len; omega) (g := (mkF m 9 #[.val (.ref b), .val (.int (Int32.ofNat o)), .val (.int (Int32.ofNat len)), .val (.ref s.heap.size), .unset, .unset] [.int (Int32.ofNat len), .int (Int32.ofNat 0), .ref s.heap.size, .int (Int32.ofNat o), .ref b])) rfl (by rw [hml]; rfl) c5 (argsL := [.ref b, .int (Int32.ofNat o), .ref s.heap.size, .int (Int32.ofNat 0), .int (Int32.ofNat len)]) (rest := []) rfl rfl (by show 2 * 0 + 0 ≤ _; decide) (hb hbytes d9) (⟨rfl, hA3, ba3, hne, l1, by rw [bs3]; simp, hp⟩)
  obtain ⟨rfl, B6, p6, f6⟩ := E6
  have c7 : Steps p.tables e below (s₁.setTop (entryFrame m #[.ref b, .int (Int32.ofNat o), .int (Int32.ofNat len)] 6)) (T6.setTop (mkF m 12 #[.val (.ref b), .val (.int (Int32.ofNat o)), .val (.int (Int32.ofNat len)), .val (.ref s.heap.size), .unset, .unset] [.int (Int32.ofNat len)])) := g6
  have c8 : Steps p.tables e below (s₁.setTop (entryFrame m #[.ref b, .int (Int32.ofNat o), .int (Int32.ofNat len)] 6)) (T6.setTop (mkF m 58 #[.val (.ref b), .val (.int (Int32.ofNat o)), .val (.int (Int32.ofNat len)), .val (.ref s.heap.size), .val (.int (Int32.ofNat len)), .unset] [.ref s.heap.size])) := c7.trans (by
    refine XS.istore X6.here hexec rfl (hb hbytes d12) rfl rfl ?_
    refine XS.iload X6.here hexec rfl (hb hbytes d14) rfl ?_
    refine XS.iloadN X6.here hexec rfl (hb hbytes d16) rfl ?_
    refine XS.icmpYes X6.here hexec rfl (pc0 := 17) rfl (hb hbytes d17) rfl (ii_eq_t rfl) (by decide) rfl ?_
    refine XS.aloadN X6.here hexec rfl (hb hbytes d57) rfl rfl ?_
    exact Steps.refl _)
  have X8 := X6.wide (L' := []) (cells' := 1) (slots' := len) (fun x hx hlt => by
    simp only [List.nil_append, copyLocs, List.mem_map, List.mem_range] at hx
    obtain ⟨i, -, rfl⟩ := hx
    exact absurd hlt (Nat.lt_irrefl _)) (Nat.le_refl _) (by omega)
  exact ⟨T6, some (.ref s.heap.size), _, _, _, X8, rfl, rfl, rfl, (fun h => by cases h), ⟨⟨rfl, B6, ba3.like (X3.warmed.alike.symm.trans X6.warmed.alike) p6.1 f6.1 f6.2.1 f6.2.2.1, f6.2.1.trans bv3, by rw [X6.warmed.alike.findClass, f6.1]; exact bf3, by rw [f6.2.2.1, bs3]; simp, fun j hj => by rw [f6.2.2.2 j, if_pos (by omega)]; rfl, kp3.put p6 (Nat.le_refl _)⟩, by rw [p6.2.2, bh3, hh0]; simp⟩, fun fs hl => c8.trans (X8.areturnOut hexec rfl hret rfl (hb hbytes d58) hl)⟩
end Cmp3
namespace CodL
def yN : MethodName := ⟨"java/lang/StringUTF16", "coderFromArrayLen", "([BI)B"⟩
abbrev yB : ByteArray := jdk_52_method_15_code
theorem d0 : decode yB 0 = .ok (.iload_n 1, 1) := by decide +kernel
theorem d1 : decode yB 1 = .ok (.aload_n 0, 1) := by decide +kernel
theorem d2 : decode yB 2 = .ok (.arraylength, 1) := by decide +kernel
theorem d3 : decode yB 3 = .ok (.isub, 1) := by decide +kernel
theorem d4 : decode yB 4 = .ok (.bipush 31, 2) := by decide +kernel
theorem d6 : decode yB 6 = .ok (.iushr, 1) := by decide +kernel
theorem d7 : decode yB 7 = .ok (.i2b, 1) := by decide +kernel
theorem d8 : decode yB 8 = .ok (.ireturn, 1) := by decide +kernel
def site : List Cond := []
def tab : Cond := tabOf yN yB 2 (some .byte) site
def P (d : Addr) (B : Cell) (args : Array Value) (s : State) : Prop := args = #[.ref d, .int (Int32.ofNat B.slots.size)] ∧ Arr .byte d B s
def E (r : Option Value) (s u : State) : Prop := XT.PureE (some (.int 0)) r s u
/-- an array as long as the number of chars: LATIN1 -/
theorem law (l : Launch) (d : Addr) (B : Cell) : Law l yN 2 2 0 0 yB 2 (some .byte) site (P d B) E [] 0 0 := by
  refine Law.of_walk (plainFor_of_name (by decide +kernel)) (by decide +kernel) (by decide +kernel) (by decide) (fun _ _ h => by rw [h.1]; rfl) (fun _ U U' hal hh h => ⟨h.1, h.2.mv hal hh⟩) (fun r U U' V V' h1 hal h2 h => XT.PureE.mv r U U' V V' h1 hal h2 h) ?_
  intro p e s m args below meth c s₁ X0 hexec hbytes hml hret hlk hnm hown hh0 W hP
  obtain ⟨rfl, hB⟩ := hP
  have hB0 := hB.mv X0.warmed.alike hh0
  have c1 : Steps p.tables e below (s₁.setTop (entryFrame m #[.ref d, .int (Int32.ofNat B.slots.size)] 2)) (s₁.setTop (mkF m 0 #[.val (.ref d), .val (.int (Int32.ofNat B.slots.size))] [])) := entry rfl
  have c2 : Steps p.tables e below (s₁.setTop (entryFrame m #[.ref d, .int (Int32.ofNat B.slots.size)] 2)) (s₁.setTop (mkF m 2 #[.val (.ref d), .val (.int (Int32.ofNat B.slots.size))] [.ref d, .int (Int32.ofNat B.slots.size)])) := c1.trans (by
    refine XS.iloadN X0.here hexec rfl (hb hbytes d0) rfl ?_
    refine XS.aloadN X0.here hexec rfl (hb hbytes d1) rfl rfl ?_
    exact Steps.refl _)
  have c3 : Steps p.tables e below (s₁.setTop (entryFrame m #[.ref d, .int (Int32.ofNat B.slots.size)] 2)) (s₁.setTop (mkF m 8 #[.val (.ref d), .val (.int (Int32.ofNat B.slots.size))] [.int (lo8 (ushr (Int32.ofNat B.slots.size - Int32.ofNat B.slots.size) 31))])) := c2.trans (by
    refine X0.alen hexec hB0 rfl rfl (hb hbytes d2) ?_
    refine XS.isub X0.here hexec rfl (hb hbytes d3) rfl ?_
    refine bipushV X0.here hexec rfl 31 (hb hbytes d4) (by decide) ?_
    refine iushr X0.here hexec rfl (hb hbytes d6) rfl ?_
    refine i2b X0.here hexec rfl (hb hbytes d7) rfl ?_
    exact Steps.refl _)
  have e0 : lo8 (ushr (Int32.ofNat B.slots.size - Int32.ofNat B.slots.size) 31) = 0 := by rw [Int32.sub_self]; decide
  rw [e0] at c3
  exact ⟨s₁, some (.int 0), _, _, _, X0, rfl, rfl, rfl, (fun h => by cases h), ⟨rfl, hh0⟩, fun fs hl => c3.trans (X0.ireturnOut hexec hret rfl (Or.inr (Or.inr (Or.inl rfl))) (hb hbytes d8) hl)⟩
end CodL
/-- the String at a is Latin-1 over a new byte[] (the heap's one new cell): the low bytes of the len chars of A from o on; every cell but a is kept -/
def Got (a : Addr) (D : Cell) (fV fC : Field) (A : Cell) (o len : Nat) (r : Option Value) (s u : State) : Prop := r = none ∧ ∃ D' V : Cell, Blank "java/lang/String" a D' u ∧ Same D D' [fV.slot, fC.slot] ∧ D'.slots[fV.slot]? = some (.ref s.heap.size) ∧ D'.slots[fC.slot]? = some (.int 0) ∧ Arr .byte s.heap.size V u ∧ V.vm = .none ∧ u.vm.findClass "[B" = some V.cls ∧ V.slots.size = len ∧ (∀ j, j < len → V.slots[j]? = some (.int (lo8 (cv A (o + j))))) ∧ (∀ (y : Addr) (c : Cell), y ≠ a → s.heap[y]? = some c → u.heap[y]? = some c) ∧ u.heap.size = s.heap.size + 1
theorem Got.mv {a : Addr} {D A : Cell} {fV fC : Field} {o len : Nat} : ∀ r (U U' V V' : State), U'.heap = U.heap → V.vm.Alike V'.vm → V'.heap = V.heap → Got a D fV fC A o len r U V → Got a D fV fC A o len r U' V' :=
  fun r U U' V V' h1 hal h2 ⟨e0, D', X, a1, a2, a3, a4, a5, a6, a7, a8, a9, a10, a11⟩ => ⟨e0, D', X, a1.mv hal h2, a2, by rw [h1]; exact a3, a4, by rw [h1]; exact a5.mv hal h2, a6, by rw [hal.findClass]; exact a7, a8, a9, by rw [h1, h2]; exact a10, by rw [h1, h2]; exact a11⟩
namespace New4
def yN : MethodName := ⟨"java/lang/String", "<init>", "([CIILjava/lang/Void;)V"⟩
abbrev yB : ByteArray := jdk_42_method_149_code
theorem d0 : decode yB 0 = .ok (.aload_n 0, 1) := by decide +kernel
theorem d1 : decode yB 1 = .ok (.invokespecial 1, 3) := by decide +kernel
theorem d4 : decode yB 4 = .ok (.iload_n 3, 1) := by decide +kernel
theorem d5 : decode yB 5 = .ok (.ifCond (.ne) 22, 3) := by decide +kernel
theorem d27 : decode yB 27 = .ok (.getstatic 38, 3) := by decide +kernel
theorem d30 : decode yB 30 = .ok (.ifCond (.eq) 28, 3) := by decide +kernel
theorem d33 : decode yB 33 = .ok (.aload_n 1, 1) := by decide +kernel
theorem d34 : decode yB 34 = .ok (.iload_n 2, 1) := by decide +kernel
theorem d35 : decode yB 35 = .ok (.iload_n 3, 1) := by decide +kernel
theorem d36 : decode yB 36 = .ok (.invokestatic 177, 3) := by decide +kernel
theorem d39 : decode yB 39 = .ok (.astore 5, 2) := by decide +kernel
theorem d41 : decode yB 41 = .ok (.aload_n 0, 1) := by decide +kernel
theorem d42 : decode yB 42 = .ok (.aload 5, 2) := by decide +kernel
theorem d44 : decode yB 44 = .ok (.iload_n 3, 1) := by decide +kernel
theorem d45 : decode yB 45 = .ok (.invokestatic 47, 3) := by decide +kernel
theorem d48 : decode yB 48 = .ok (.putfield 15, 3) := by decide +kernel
theorem d51 : decode yB 51 = .ok (.aload_n 0, 1) := by decide +kernel
theorem d52 : decode yB 52 = .ok (.aload 5, 2) := by decide +kernel
theorem d54 : decode yB 54 = .ok (.putfield 9, 3) := by decide +kernel
theorem d57 : decode yB 57 = .ok (.return_, 1) := by decide +kernel
def site : List Cond := [.fieldLink "java/lang/String" 38 "java/lang/String" "COMPACT_STRINGS" "Z", Cmp3.tab, CodL.tab, .laysFinal "java/lang/String" "java/lang/String" "value" "[B", .fieldLink "java/lang/String" 9 "java/lang/String" "value" "[B", .laysFinal "java/lang/String" "java/lang/String" "coder" "B", .fieldLink "java/lang/String" 15 "java/lang/String" "coder" "B"] ++ objW "java/lang/String" 1 ++ staticW "java/lang/String" 177 Cmp3.yN ++ staticW "java/lang/String" 47 CodL.yN
def tab : Cond := tabOf yN yB 6 none site
def P (a : Addr) (D : Cell) (fV fC : Field) (b : Addr) (A : Cell) (z : Int32) (o len : Nat) (args : Array Value) (s : State) : Prop := args = #[.ref a, .ref b, .int (Int32.ofNat o), .int (Int32.ofNat len), .null] ∧ Blank "java/lang/String" a D s ∧ Found "java/lang/String" "value" "[B" fV s ∧ Found "java/lang/String" "coder" "B" fC s ∧ Ch b A s ∧ StaticIs s "java/lang/String" "COMPACT_STRINGS" "Z" (.int z) ∧ ¬ z = 0 ∧ 0 < len ∧ o + len ≤ A.slots.size ∧ len ≤ 536870912 ∧ ∀ i, i < len → ¬ 255 < cv A (o + i)
def E (a : Addr) (D : Cell) (fV fC : Field) (A : Cell) (o len : Nat) (r : Option Value) (s u : State) : Prop := Got a D fV fC A o len r s u
/-- len > 0, no char of the range above 255: a Latin-1 String of their low bytes -/
theorem law (l : Launch) (a : Addr) (D : Cell) (fV fC : Field) (b : Addr) (A : Cell) (z : Int32) (o len : Nat) : Law l yN 5 4 2 35 yB 6 none site (P a D fV fC b A z o len) (E a D fV fC A o len) [⟨a, fC.slot⟩, ⟨a, fV.slot⟩] 1 len := by
  refine Law.of_walk (plainFor_of_name (by decide +kernel)) (by decide +kernel) (by decide +kernel) (by decide) (fun _ _ h => by rw [h.1]; rfl) (fun _ U U' hal hh h => ⟨h.1, h.2.1.mv hal hh, h.2.2.1.al hal, h.2.2.2.1.al hal, h.2.2.2.2.1.mv hal hh, h.2.2.2.2.2.1.there hal hh, h.2.2.2.2.2.2⟩) (fun r U U' V V' h1 hal h2 h => Got.mv r U U' V V' h1 hal h2 h) ?_
  intro p e s m args below meth c s₁ X0 hexec hbytes hml hret hlk hnm hown hh0 W hP
  obtain ⟨rfl, hB, f1, f2, hA, s1, hz, l0, l1, l2, hp⟩ := hP
  have a31 := hA.1.2.2.2
  have c1 : Steps p.tables e below (s₁.setTop (entryFrame m #[.ref a, .ref b, .int (Int32.ofNat o), .int (Int32.ofNat len), .null] 6)) (s₁.setTop (mkF m 0 #[.val (.ref a), .val (.ref b), .val (.int (Int32.ofNat o)), .val (.int (Int32.ofNat len)), .val .null, .unset] [])) := entry rfl
  have c2 : Steps p.tables e below (s₁.setTop (entryFrame m #[.ref a, .ref b, .int (Int32.ofNat o), .int (Int32.ofNat len), .null] 6)) (s₁.setTop (mkF m 1 #[.val (.ref a), .val (.ref b), .val (.int (Int32.ofNat o)), .val (.int (Int32.ofNat len)), .val .null, .unset] [.ref a])) := c1.trans (by
    refine XS.aloadN X0.here hexec rfl (hb hbytes d0) rfl rfl ?_
    exact Steps.refl _)
  obtain ⟨T3, X3, q3, st3⟩ := X0.oinit hexec hown (wks W (objW "java/lang/String" 1)) (g := (mkF m 1 #[.val (.ref a), .val (.ref b), .val (.int (Int32.ofNat o)), .val (.int (Int32.ofNat len)), .val .null, .unset] [.ref a])) rfl (by rw [hml]; rfl) (rest := []) rfl (hb hbytes d1) (W := 0) (by show 2 * 0 + 0 ≤ _; decide) (Nat.le_of_ble_eq_true rfl) (Nat.le_of_ble_eq_true rfl)
  have hh3 := q3.trans hh0
  have c4 : Steps p.tables e below (s₁.setTop (entryFrame m #[.ref a, .ref b, .int (Int32.ofNat o), .int (Int32.ofNat len), .null] 6)) (T3.setTop (mkF m 27 #[.val (.ref a), .val (.ref b), .val (.int (Int32.ofNat o)), .val (.int (Int32.ofNat len)), .val .null, .unset] [])) := (c2.trans (st3 _ (Steps.refl _))).trans (by
    refine XS.iloadN X3.here hexec rfl (hb hbytes d4) rfl ?_
    refine XS.ifYes X3.here hexec rfl (pc0 := 5) rfl (hb hbytes d5) rfl (i0_ne_t (nz32 (by omega) l0)) (by decide) rfl ?_
    exact Steps.refl _)
  obtain ⟨T5, X5, q5, st5⟩ := X3.sget hexec hown (wk W (.fieldLink "java/lang/String" 38 "java/lang/String" "COMPACT_STRINGS" "Z")) s1 (fun _ _ h => by rw [hh3]; exact h) (g := (mkF m 27 #[.val (.ref a), .val (.ref b), .val (.int (Int32.ofNat o)), .val (.int (Int32.ofNat len)), .val .null, .unset] [])) rfl (hb hbytes d27)
  have hh5 := q5.trans hh3
  have c6 : Steps p.tables e below (s₁.setTop (entryFrame m #[.ref a, .ref b, .int (Int32.ofNat o), .int (Int32.ofNat len), .null] 6)) (T5.setTop (mkF m 30 #[.val (.ref a), .val (.ref b), .val (.int (Int32.ofNat o)), .val (.int (Int32.ofNat len)), .val .null, .unset] [.int z])) := c4.trans (st5 _ (Steps.refl _))
  have c7 : Steps p.tables e below (s₁.setTop (entryFrame m #[.ref a, .ref b, .int (Int32.ofNat o), .int (Int32.ofNat len), .null] 6)) (T5.setTop (mkF m 36 #[.val (.ref a), .val (.ref b), .val (.int (Int32.ofNat o)), .val (.int (Int32.ofNat len)), .val .null, .unset] [.int (Int32.ofNat len), .int (Int32.ofNat o), .ref b])) := c6.trans (by
    refine XS.ifNo X5.here hexec rfl (hb hbytes d30) rfl (i0_eq_f hz) ?_
    refine XS.aloadN X5.here hexec rfl (hb hbytes d33) rfl rfl ?_
    refine XS.iloadN X5.here hexec rfl (hb hbytes d34) rfl ?_
    refine XS.iloadN X5.here hexec rfl (hb hbytes d35) rfl ?_
    exact Steps.refl _)
  obtain ⟨v8, T8, X8, E8, g8⟩ := X5.callS hexec (Cmp3.law l b A o len) hown (wks W (staticW "java/lang/String" 177 Cmp3.yN)) (wk W Cmp3.tab) (W := 0) (Nat.le_of_ble_eq_true rfl) (Nat.le_of_ble_eq_true rfl) (Nat.le_refl _) (by show 0 + len ≤ len; omega) (g := (mkF m 36 #[.val (.ref a), .val (.ref b), .val (.int (Int32.ofNat o)), .val (.int (Int32.ofNat len)), .val .null, .unset] [.int (Int32.ofNat len), .int (Int32.ofNat o), .ref b])) rfl (by rw [hml]; rfl) c7 (argsL := [.ref b, .int (Int32.ofNat o), .int (Int32.ofNat len)]) (rest := []) rfl rfl (by show 2 * 0 + 0 ≤ _; decide) (hb hbytes d36) (⟨rfl, hA.mv X5.warmed.alike hh5, l1, l2, hp⟩)
  obtain ⟨e8, z8⟩ := E8
  obtain ⟨rfl, N, n1, n2, n3, n4, n5, n6⟩ := NewArr.mv _ T5 s _ _ hh5.symm (Vm.Alike.refl _) rfl e8
  rw [hh5] at z8
  have hB1 := hB.keep X8.warmed.alike (n6 _ _ hB.1)
  have hne : s.heap.size ≠ a := (Nat.ne_of_lt (Array.getElem?_eq_some_iff.mp hB.1).1).symm
  have c9 : Steps p.tables e below (s₁.setTop (entryFrame m #[.ref a, .ref b, .int (Int32.ofNat o), .int (Int32.ofNat len), .null] 6)) (T8.setTop (mkF m 39 #[.val (.ref a), .val (.ref b), .val (.int (Int32.ofNat o)), .val (.int (Int32.ofNat len)), .val .null, .unset] [.ref s.heap.size])) := g8
  have c10 : Steps p.tables e below (s₁.setTop (entryFrame m #[.ref a, .ref b, .int (Int32.ofNat o), .int (Int32.ofNat len), .null] 6)) (T8.setTop (mkF m 45 #[.val (.ref a), .val (.ref b), .val (.int (Int32.ofNat o)), .val (.int (Int32.ofNat len)), .val .null, .val (.ref s.heap.size)] [.int (Int32.ofNat N.slots.size), .ref s.heap.size, .ref a])) := by
    have hc : Steps p.tables e below (s₁.setTop (entryFrame m #[.ref a, .ref b, .int (Int32.ofNat o), .int (Int32.ofNat len), .null] 6)) (T8.setTop (mkF m 45 #[.val (.ref a), .val (.ref b), .val (.int (Int32.ofNat o)), .val (.int (Int32.ofNat len)), .val .null, .val (.ref s.heap.size)] [.int (Int32.ofNat len), .ref s.heap.size, .ref a])) := c9.trans (by
      refine XS.astore X8.here hexec rfl (hb hbytes d39) rfl rfl rfl ?_
      refine XS.aloadN X8.here hexec rfl (hb hbytes d41) rfl rfl ?_
      refine XS.aload X8.here hexec rfl (hb hbytes d42) rfl rfl ?_
      refine XS.iloadN X8.here hexec rfl (hb hbytes d44) rfl ?_
      exact Steps.refl _)
    rw [n4]; exact hc
  obtain ⟨v11, T11, X11, E11, g11⟩ := X8.callS hexec (CodL.law l s.heap.size N) hown (wks W (staticW "java/lang/String" 47 CodL.yN)) (wk W CodL.tab) (W := 1) (Nat.le_of_ble_eq_true rfl) (Nat.le_of_ble_eq_true rfl) (Nat.le_refl _) (by show 0 + len + 0 ≤ len; omega) (g := (mkF m 45 #[.val (.ref a), .val (.ref b), .val (.int (Int32.ofNat o)), .val (.int (Int32.ofNat len)), .val .null, .val (.ref s.heap.size)] [.int (Int32.ofNat N.slots.size), .ref s.heap.size, .ref a])) rfl (by rw [hml]; rfl) c10 (argsL := [.ref s.heap.size, .int (Int32.ofNat N.slots.size)]) (rest := [.ref a]) rfl rfl (by show 2 * 0 + (1 + 0) ≤ _; decide) (hb hbytes d45) (⟨rfl, n1⟩)
  obtain ⟨rfl, q11⟩ := E11
  have hB11 := hB1.mv (X8.warmed.alike.symm.trans X11.warmed.alike) q11
  have c12 : Steps p.tables e below (s₁.setTop (entryFrame m #[.ref a, .ref b, .int (Int32.ofNat o), .int (Int32.ofNat len), .null] 6)) (T11.setTop (mkF m 48 #[.val (.ref a), .val (.ref b), .val (.int (Int32.ofNat o)), .val (.int (Int32.ofNat len)), .val .null, .val (.ref s.heap.size)] [.int 0, .ref a])) := g11
  obtain ⟨T13, X13, p13, bl13, sl13, st13⟩ := X11.finit hexec hown (wk W (.fieldLink "java/lang/String" 15 "java/lang/String" "coder" "B")) (Or.inr ⟨_, (wk W (.laysFinal "java/lang/String" "java/lang/String" "coder" "B"))⟩) (Or.inl ⟨rfl, hnm⟩) f2 (Or.inl rfl) hB11 (t := .byte) (by decide +kernel) rfl (g := (mkF m 48 #[.val (.ref a), .val (.ref b), .val (.int (Int32.ofNat o)), .val (.int (Int32.ofNat len)), .val .null, .val (.ref s.heap.size)] [.int 0, .ref a])) rfl (rest := []) rfl (hb hbytes d48)
  have c14 : Steps p.tables e below (s₁.setTop (entryFrame m #[.ref a, .ref b, .int (Int32.ofNat o), .int (Int32.ofNat len), .null] 6)) (T13.setTop (mkF m 54 #[.val (.ref a), .val (.ref b), .val (.int (Int32.ofNat o)), .val (.int (Int32.ofNat len)), .val .null, .val (.ref s.heap.size)] [.ref s.heap.size, .ref a])) := (c12.trans (st13 _ (Steps.refl _))).trans (by
    refine XS.aloadN X13.here hexec rfl (hb hbytes d51) rfl rfl ?_
    refine XS.aload X13.here hexec rfl (hb hbytes d52) rfl rfl ?_
    exact Steps.refl _)
  obtain ⟨T15, X15, p15, bl15, sl15, st15⟩ := X13.finit hexec hown (wk W (.fieldLink "java/lang/String" 9 "java/lang/String" "value" "[B")) (Or.inr ⟨_, (wk W (.laysFinal "java/lang/String" "java/lang/String" "value" "[B"))⟩) (Or.inl ⟨rfl, hnm⟩) f1 (Or.inl rfl) bl13 (t := (.array .byte)) (by decide +kernel) rfl (g := (mkF m 54 #[.val (.ref a), .val (.ref b), .val (.int (Int32.ofNat o)), .val (.int (Int32.ofNat len)), .val .null, .val (.ref s.heap.size)] [.ref s.heap.size, .ref a])) rfl (rest := []) rfl (hb hbytes d54)
  have c16 : Steps p.tables e below (s₁.setTop (entryFrame m #[.ref a, .ref b, .int (Int32.ofNat o), .int (Int32.ofNat len), .null] 6)) (T15.setTop (mkF m 57 #[.val (.ref a), .val (.ref b), .val (.int (Int32.ofNat o)), .val (.int (Int32.ofNat len)), .val .null, .val (.ref s.heap.size)] [])) := c14.trans (st15 _ (Steps.refl _))
  have ap := apart (Or.inr ⟨_, (wk W (.laysFinal "java/lang/String" "java/lang/String" "value" "[B"))⟩) (Or.inr ⟨_, (wk W (.laysFinal "java/lang/String" "java/lang/String" "coder" "B"))⟩) f1 f2 (t₁ := .array .byte) (t₂ := .byte) (by decide +kernel) (by decide +kernel) (by decide)
  have al := X8.warmed.alike.symm.trans X15.warmed.alike
  have n7 : T11.heap[s.heap.size]? = some N := by rw [q11]; exact n1.1
  exact ⟨T15, none, _, _, _, X15, by simp, rfl, by omega, (fun _ => rfl), ⟨rfl, _, N, bl15, ((Same.refl D _).set _ (by simp)).set _ (by simp), sl15, (Cell.slots_setSlot_ne _ ap).trans sl13, n1.keep al (p15.other hne (p13.other hne n7)), n2, by rw [al.findClass]; exact n3, n4, n5, fun y c h1 h2 => p15.other h1 (p13.other h1 (by rw [q11]; exact n6 y c h2)), by rw [p15.2.2, p13.2.2, q11]; exact z8⟩, fun fs hl => c16.trans (X15.returnOut hexec hret (hb hbytes d57) hl)⟩
end New4
namespace New1
def yN : MethodName := ⟨"java/lang/String", "<init>", "([C)V"⟩
abbrev yB : ByteArray := jdk_42_method_3_code
theorem d0 : decode yB 0 = .ok (.aload_n 0, 1) := by decide +kernel
theorem d1 : decode yB 1 = .ok (.aload_n 1, 1) := by decide +kernel
theorem d2 : decode yB 2 = .ok (.iconst 0, 1) := by decide +kernel
theorem d3 : decode yB 3 = .ok (.aload_n 1, 1) := by decide +kernel
theorem d4 : decode yB 4 = .ok (.arraylength, 1) := by decide +kernel
theorem d5 : decode yB 5 = .ok (.aconst_null, 1) := by decide +kernel
theorem d6 : decode yB 6 = .ok (.invokespecial 27, 3) := by decide +kernel
theorem d9 : decode yB 9 = .ok (.return_, 1) := by decide +kernel
def site : List Cond := [New4.tab] ++ initW "java/lang/String" 27 New4.yN
def tab : Cond := tabOf yN yB 2 none site
def P (a : Addr) (D : Cell) (fV fC : Field) (b : Addr) (A : Cell) (z : Int32) (args : Array Value) (s : State) : Prop := args = #[.ref a, .ref b] ∧ Blank "java/lang/String" a D s ∧ Found "java/lang/String" "value" "[B" fV s ∧ Found "java/lang/String" "coder" "B" fC s ∧ Ch b A s ∧ StaticIs s "java/lang/String" "COMPACT_STRINGS" "Z" (.int z) ∧ ¬ z = 0 ∧ 0 < A.slots.size ∧ A.slots.size ≤ 536870912 ∧ ∀ i, i < A.slots.size → ¬ 255 < cv A i
def E (a : Addr) (D : Cell) (fV fC : Field) (A : Cell) (r : Option Value) (s u : State) : Prop := Got a D fV fC A 0 A.slots.size r s u
/-- new String(chars), not empty, no char above 255: a Latin-1 String of their low bytes -/
theorem law (l : Launch) (a : Addr) (D : Cell) (fV fC : Field) (b : Addr) (A : Cell) (z : Int32) : Law l yN 2 1 3 52 yB 2 none site (P a D fV fC b A z) (E a D fV fC A) [⟨a, fC.slot⟩, ⟨a, fV.slot⟩] 1 A.slots.size := by
  refine Law.of_walk (plainFor_of_name (by decide +kernel)) (by decide +kernel) (by decide +kernel) (by decide) (fun _ _ h => by rw [h.1]; rfl) (fun _ U U' hal hh h => ⟨h.1, h.2.1.mv hal hh, h.2.2.1.al hal, h.2.2.2.1.al hal, h.2.2.2.2.1.mv hal hh, h.2.2.2.2.2.1.there hal hh, h.2.2.2.2.2.2⟩) (fun r U U' V V' h1 hal h2 h => Got.mv r U U' V V' h1 hal h2 h) ?_
  intro p e s m args below meth c s₁ X0 hexec hbytes hml hret hlk hnm hown hh0 W hP
  obtain ⟨rfl, hB, f1, f2, hA, s1, hz, l0, l2, hp⟩ := hP
  have c1 : Steps p.tables e below (s₁.setTop (entryFrame m #[.ref a, .ref b] 2)) (s₁.setTop (mkF m 0 #[.val (.ref a), .val (.ref b)] [])) := entry rfl
  have c2 : Steps p.tables e below (s₁.setTop (entryFrame m #[.ref a, .ref b] 2)) (s₁.setTop (mkF m 6 #[.val (.ref a), .val (.ref b)] [.null, .int (Int32.ofNat A.slots.size), .int 0, .ref b, .ref a])) := c1.trans (by
    refine XS.aloadN X0.here hexec rfl (hb hbytes d0) rfl rfl ?_
    refine XS.aloadN X0.here hexec rfl (hb hbytes d1) rfl rfl ?_
    refine iconstV X0.here hexec rfl 0 (hb hbytes d2) (by decide) ?_
    refine XS.aloadN X0.here hexec rfl (hb hbytes d3) rfl rfl ?_
    refine X0.alen hexec (hA.1.mv X0.warmed.alike hh0) rfl rfl (hb hbytes d4) ?_
    refine XS.aconstNull X0.here hexec rfl (hb hbytes d5) ?_
    exact Steps.refl _)
  obtain ⟨v3, T3, X3, E3, g3⟩ := X0.callN hexec (New4.law l a D fV fC b A z 0 A.slots.size) rfl hown (wks W (initW "java/lang/String" 27 New4.yN)) (W New4.tab (by simp only [site, List.mem_cons, List.mem_append, true_or, or_true])) (W := 0) (Nat.le_of_ble_eq_true rfl) (Nat.le_of_ble_eq_true rfl) (Nat.le_refl _) (by show 0 + A.slots.size ≤ A.slots.size; omega) (g := (mkF m 6 #[.val (.ref a), .val (.ref b)] [.null, .int (Int32.ofNat A.slots.size), .int (Int32.ofNat 0), .ref b, .ref a])) rfl (by rw [hml]; rfl) c2 (argsL := [.ref b, .int (Int32.ofNat 0), .int (Int32.ofNat A.slots.size), .null]) (rest := []) rfl rfl (by show 2 * 0 + 0 ≤ _; decide) (hb hbytes d6) (⟨rfl, hB.mv X0.warmed.alike hh0, f1.al X0.warmed.alike, f2.al X0.warmed.alike, hA.mv X0.warmed.alike hh0, s1.there X0.warmed.alike hh0, hz, l0, by omega, l2, fun i hi => by rw [Nat.zero_add]; exact hp i hi⟩)
  have e0 := Got.mv _ s₁ s _ _ hh0.symm (Vm.Alike.refl _) rfl E3
  obtain rfl := e0.1
  have c4 : Steps p.tables e below (s₁.setTop (entryFrame m #[.ref a, .ref b] 2)) (T3.setTop (mkF m 9 #[.val (.ref a), .val (.ref b)] [])) := g3
  exact ⟨T3, none, _, _, _, X3, by simp, rfl, by omega, (fun _ => rfl), e0, fun fs hl => c4.trans (X3.returnOut hexec hret (hb hbytes d9) hl)⟩
theorem pays {l : Launch} {R : Room} {p : Program} {e : Env} {below : List Frame} {s : State} {sargs : Array Value} {len W : Nat} (a : Addr) (D : Cell) (fV fC : Field) (b : Addr) (A : Cell) (z : Int32) (htab : tab.before sargs s = true) (hfr : 4 ≤ R.frames) (hlo : W + 65 ≤ R.locals) :
    Back l R p e below s sargs yN len W (fun A₁ a₁ => A₁.cells + 1 ≤ R.cells ∧ A₁.slots + A.slots.size ≤ R.slots ∧ P a D fV fC b A z a₁ A₁.U) (fun A₁ _ v₁ B₁ => E a D fV fC A v₁ A₁.U B₁.U ∧ B₁.locs = A₁.locs ++ [⟨a, fC.slot⟩, ⟨a, fV.slot⟩] ∧ B₁.cells = A₁.cells + 1 ∧ B₁.slots = A₁.slots + A.slots.size) :=
  (law l a D fV fC b A z).pays htab hfr (by omega)
end New1
/-- the byte, read back as charAt reads it, is the char -/
theorem lo8_mask {x : Int32} (h0 : ¬ x < 0) (h1 : ¬ 255 < x) : lo8 x &&& 255 = x := by
  have t : ∀ k : Fin 256, lo8 (Int32.ofNat k.val) &&& 255 = Int32.ofNat k.val := by decide +kernel
  rw [Int32.lt_iff_toInt_lt] at h0 h1
  have e0 : (0 : Int32).toInt = 0 := rfl
  have e1 : (255 : Int32).toInt = 255 := rfl
  obtain ⟨k, hk⟩ : ∃ k : Nat, x.toInt = k := ⟨x.toInt.toNat, by omega⟩
  have hx : x = Int32.ofNat k := Int32.toInt_inj.mp (by rw [hk, Int32.toInt_ofNat_small (by omega)])
  rw [hx]
  exact t ⟨k, by omega⟩
end StrChars
namespace StrChars.Road
open Jvm Sem ClassFile Op Lib Jvm.Stand Jvm.Free Jvm.Free.XT
open Jvm.Lib.Cold (StaticIs)
abbrev ST : String := "java/lang/String"
/-- every table word that New1's law asks, flat -/
abbrev words : List Jvm.Cond := [.code New1.yN New1.yB 2 none, .initialized ST, .methodLink ST 27 New4.yN, .instanceMethod New4.yN,
  .code New4.yN New4.yB 6 none, .fieldLink ST 38 ST "COMPACT_STRINGS" "Z", .laysFinal ST ST "value" "[B", .fieldLink ST 9 ST "value" "[B", .laysFinal ST ST "coder" "B", .fieldLink ST 15 ST "coder" "B",
  .methodLink ST 1 Lib.objectInit, .instanceMethod Lib.objectInit, .code Lib.objectInit ⟨#[0xb1]⟩ 1 none, .methodLink ST 177 Cmp3.yN, .static Cmp3.yN, .methodLink ST 47 CodL.yN, .static CodL.yN,
  .code Cmp3.yN Cmp3.yB 6 (some (.array .byte)), .initialized U16, .arrayClass .byte, .methodLink U16 115 Cmp5.yN, .static Cmp5.yN, .code Cmp5.yN Cmp5.yB 7 (some .int), .code CodL.yN CodL.yB 2 (some .byte)]
theorem tab_of {a : Array Value} {s : State} (h : ∀ w ∈ words, w.before a s = true) : New1.tab.before a s = true := by
  have h5 : Cmp5.tab.before a s = true := unparts (wk h (.code Cmp5.yN Cmp5.yB 7 (some .int))) (wks h (.initialized Cmp5.yN.cls :: Cmp5.site))
  have hc : CodL.tab.before a s = true := unparts (wk h (.code CodL.yN CodL.yB 2 (some .byte))) (wks h (.initialized CodL.yN.cls :: CodL.site))
  have q5 : ∀ w ∈ Cmp5.tab :: words, w.before a s = true := fun w hw => (List.mem_cons.mp hw).elim (fun e => e ▸ h5) (h w)
  have h3 : Cmp3.tab.before a s = true := unparts (wk q5 (.code Cmp3.yN Cmp3.yB 6 (some (.array .byte)))) (wks q5 (.initialized Cmp3.yN.cls :: Cmp3.site))
  have q3 : ∀ w ∈ Cmp3.tab :: CodL.tab :: words, w.before a s = true := fun w hw => (List.mem_cons.mp hw).elim (fun e => e ▸ h3) fun hw => (List.mem_cons.mp hw).elim (fun e => e ▸ hc) (h w)
  have h4 : New4.tab.before a s = true := unparts (wk q3 (.code New4.yN New4.yB 6 none)) (wks q3 (.initialized New4.yN.cls :: New4.site))
  have q4 : ∀ w ∈ New4.tab :: words, w.before a s = true := fun w hw => (List.mem_cons.mp hw).elim (fun e => e ▸ h4) (h w)
  exact unparts (wk q4 (.code New1.yN New1.yB 2 none)) (wks q4 (.initialized New1.yN.cls :: New1.site))
/-- the words ride from the start Z to the walk's own state -/
theorem moved {Z s : State} {a0 args : Array Value} (hZ : Z.Warmed39 s.vm) (hw : ∀ d ∈ words, d.before a0 Z = true) : ∀ d ∈ words, d.before args s = true := fun d hd => by
  have q := hw d hd
  have t : ∀ d ∈ words, d = .arrayClass .byte ∨ (d.onTables && d.keepsFace) = true := by decide +kernel
  rcases t d hd with rfl | t
  · exact RoadKit.mvA hZ q
  · exact RoadKit.mv hZ q t
/-- WHAT COMES BACK, over the tables of the start Z: h the heap at the call, h' behind it -/
def Q (Z : State) (x : Addr) (A : Cell) (h : Heap) (v : Option Value) (h' : Heap) (L : List Loc) : Prop := v = none ∧ (∀ y ∈ L, y.base = x) ∧ RoadKit.Keep h h' [x] ∧ h'.size = h.size + 1 ∧ RoadKit.Exa Z h' x ST ∧ RoadKit.Fld Z h' x ST "value" "[B" (.ref h.size) ∧ RoadKit.Fld Z h' x ST "coder" "B" (.int 0) ∧
  (∃ V : Cell, RoadKit.Arr Z h' h.size V .byte ∧ V.vm = .none ∧ Z.vm.findClass "[B" = some V.cls ∧ V.slots.size = A.slots.size ∧ ∀ j, j < A.slots.size → V.slots[j]? = some (.int (lo8 (cv A j)))) ∧
  ∀ (O n d : String) (w : Value), RoadKit.Fld Z h x O n d w → RoadKit.slotOf Z O n d ≠ RoadKit.slotOf Z ST "value" "[B" → RoadKit.slotOf Z O n d ≠ RoadKit.slotOf Z ST "coder" "B" → RoadKit.Fld Z h' x O n d w
/-- **new String(chars) AT A CALL, IN THE ROAD'S FORM**: for specialBack behind newO: x the fresh String, b the char[] with the cell A -/
theorem back {p : Program} {l : Launch} {e : Env} {R : Room} {s : State} {args : Array Value} {below : List Frame} {len W : Nat} {Z : State} {a0 : Array Value} {h : Heap} (hZ : Z.Warmed39 s.vm) (hw : ∀ d ∈ words, d.before a0 Z = true) {kI : Nat} (wi : (Jvm.Cond.instantiable ST kI).before a0 Z = true)
    {x b : Addr} {A : Cell} {z : Int32} {v0 c0 : Value} (E : RoadKit.Exa Z h x ST) (V : RoadKit.Fld Z h x ST "value" "[B" v0) (C : RoadKit.Fld Z h x ST "coder" "B" c0) (K : RoadKit.Arr Z h b A .char) (hty : Typed .char A) (S : RoadKit.Sta Z h ST "COMPACT_STRINGS" "Z" (.int z)) (hz : ¬ z = 0)
    (l0 : 0 < A.slots.size) (l2 : A.slots.size ≤ 536870912) (hp : ∀ i, i < A.slots.size → ¬ 255 < cv A i) (hfr : 4 ≤ R.frames) (hlo : W + 65 ≤ R.locals) :
    Back l R p e below s args New1.yN len W (fun P a => a = #[.ref x, .ref b] ∧ P.U.heap = h ∧ P.cells + 1 ≤ R.cells ∧ P.slots + A.slots.size ≤ R.slots)
      (fun P _ v B => ∃ L, Q Z x A h v B.U.heap L ∧ B.locs = P.locs ++ L ∧ B.cells = P.cells + 1 ∧ B.slots = P.slots + A.slots.size) := by
  intro m meth c P g ig mk a X hg hsize hdg hW hn hp'
  obtain ⟨rfl, rfl, r1, r2⟩ := hp'
  have al : Z.vm.Alike P.U.vm := hZ.alike.trans X.warmed.alike
  obtain ⟨D, cfV, kV, iV, fV, hD, gV, stV, knV, obV, asV, slV⟩ := id V
  obtain ⟨D', cfC, kC, iC, fC, hD', gC, stC, -, -, asC, slC⟩ := id C
  cases hD.symm.trans hD'
  obtain ⟨D2, kD, e1, e2, e3, e4, e5⟩ := id E
  cases hD.symm.trans e1
  obtain ⟨c2, k2, i1, i2, i3, -⟩ := Cond.instantiable_spec wi
  cases e2.symm.trans i1
  cases e3.symm.trans i2
  obtain ⟨kU, u1, u2⟩ := al.2.2 _ _ e3
  have hB : Blank ST x D P.U := ⟨hD, ⟨knV, fun q hq => by rw [hq] at obV; cases obV⟩, by rw [al.findClass]; exact e2, kU, u1, by rw [u2]; exact i3, by rw [u2]; exact e5 i3⟩
  have F1 : Found ST "value" "[B" fV P.U := ⟨SBG.found_only al ⟨cfV, kV, iV, gV⟩, stV⟩
  have F2 : Found ST "coder" "B" fC P.U := ⟨SBG.found_only al ⟨cfC, kC, iC, gC⟩, stC⟩
  have hA : Ch b A P.U := ⟨⟨K.1, State.isArrayOf_alike al K.2.1, K.2.2, by omega⟩, hty⟩
  have hS : StaticIs P.U ST "COMPACT_STRINGS" "Z" (.int z) := by
    obtain ⟨cfS, iS, kS, fS, st, cS, t1, t2, t3, t4, t5, t6, t7⟩ := S
    exact StaticIs.there (s := { Z with heap := P.U.heap }) ⟨cfS, iS, kS, fS, st, cS, t1, t2, t3, t4, t5, (fun q => by rw [q] at t6; cases t6), t7⟩ al rfl
  obtain ⟨v, B, X', ⟨⟨hv, E', V', q1, q2, q3, q4, q5, q6, q7, q8, q9, q10, q11⟩, hl, hc, hs⟩, st⟩ := New1.pays x D fV fC b A z (tab_of (moved hZ hw)) hfr hlo m meth c P g ig mk _ X hg hsize hdg hW hn ⟨r1, r2, rfl, hB, F1, F2, hA, hS, hz, l0, l2, hp⟩
  have al' : Z.vm.Alike B.U.vm := hZ.alike.trans X'.warmed.alike
  have hsz : E'.slots.size = D.slots.size := by
    obtain ⟨-, -, -, kB, w1, w2, w3⟩ := q1
    obtain ⟨kB', y1, y2⟩ := al'.2.2 _ _ e3
    rw [q2.2.1] at w1
    cases w1.symm.trans y1
    rw [w3, e5 i3, y2]
  refine ⟨v, B, X', ⟨_, ⟨hv, ?_, ⟨by omega, fun y cy hy hn' => q10 y cy (by simpa using hn') hy, fun y cy hy => ?_⟩, q11, ⟨E', _, q1.1, by rw [q2.2.1]; exact e2, by rw [q2.2.1]; exact e3, by rw [q2.1]; exact obV, fun _ => by rw [hsz]; exact e5 i3⟩,
    ⟨E', cfV, kV, iV, fV, q1.1, gV, stV, by rw [q2.1]; exact knV, by rw [q2.1]; exact obV, by rw [q2.2.1]; exact asV, q3⟩, ⟨E', cfC, kC, iC, fC, q1.1, gC, stC, by rw [q2.1]; exact knV, by rw [q2.1]; exact obV, by rw [q2.2.1]; exact asC, q4⟩,
    ⟨V', ⟨q5.1, State.isArrayOf_alike al'.symm q5.2.1, q5.2.2.1⟩, q6, by rw [← al'.findClass]; exact q7, q8, fun j hj => by have := q9 j hj; rwa [Nat.zero_add] at this⟩, fun O n d w F n1 n2 => ?_⟩, hl, hc, hs⟩, st⟩
  · intro y hy
    simp only [List.mem_cons, List.not_mem_nil, or_false] at hy
    rcases hy with rfl | rfl <;> rfl
  · by_cases q : y = x
    · subst q
      cases hD.symm.trans hy
      exact ⟨E', q1.1, q2.2.1, q2.1, hsz⟩
    · exact ⟨cy, q10 y cy q hy, rfl, rfl, rfl⟩
  · obtain ⟨D3, cf, k, i, f, g1, g2, g3, g4, g5, g6, g7⟩ := F
    cases hD.symm.trans g1
    simp only [RoadKit.slotOf, g2, gV, gC, Option.map_some, Option.getD_some] at n1 n2
    exact ⟨E', cf, k, i, f, q1.1, g2, g3, by rw [q2.1]; exact g4, by rw [q2.1]; exact g5, by rw [q2.2.1]; exact g6, by rw [q2.2.2 f.slot (by simp [n1, n2])]; exact g7⟩
end StrChars.Road
namespace StrChars.Road
open Jvm Sem ClassFile Op Lib Jvm.Stand Jvm.Free Jvm.Free.XT
/-- WHAT COMES BACK, the byte[] as a list of values -/
def QA (Z : State) (x : Addr) (zn : Int32) (cs : List Int32) (h : Heap) (v : Option Value) (h' : Heap) (L : List Loc) : Prop := v = none ∧ (∀ y ∈ L, y.base = x) ∧ RoadKit.Keep h h' [x] ∧ h'.size = h.size + 1 ∧ RoadKit.Exa Z h' x ST ∧ RoadKit.Fld Z h' x ST "value" "[B" (.ref h.size) ∧ RoadKit.Fld Z h' x ST "coder" "B" (.int 0) ∧
  (∃ kb, Z.vm.findClass "[B" = some kb ∧ RoadKit.Arv Z h' h.size kb .byte zn (cs.map fun c => .int (lo8 c)) (.int 0)) ∧
  ∀ (O n d : String) (w : Value), RoadKit.Fld Z h x O n d w → RoadKit.slotOf Z O n d ≠ RoadKit.slotOf Z ST "value" "[B" → RoadKit.slotOf Z O n d ≠ RoadKit.slotOf Z ST "coder" "B" → RoadKit.Fld Z h' x O n d w
/-- **new String(chars) AT A CALL, THE ARRAYS AS LISTS**: the char[] at b holds cs, not empty, no char above 255 -/
theorem backArv {p : Program} {l : Launch} {e : Env} {R : Room} {s : State} {args : Array Value} {below : List Frame} {len W : Nat} {Z : State} {a0 : Array Value} {h : Heap} (hZ : Z.Warmed39 s.vm) (hw : ∀ d ∈ words, d.before a0 Z = true) {kI : Nat} (wi : (Jvm.Cond.instantiable ST kI).before a0 Z = true)
    {x b : Addr} {k : ClassId} {zn z : Int32} {cs : List Int32} {dv v0 c0 : Value} (E : RoadKit.Exa Z h x ST) (V : RoadKit.Fld Z h x ST "value" "[B" v0) (C : RoadKit.Fld Z h x ST "coder" "B" c0) (K : RoadKit.Arv Z h b k .char zn (cs.map Value.int) dv) (S : RoadKit.Sta Z h ST "COMPACT_STRINGS" "Z" (.int z)) (hz : ¬ z = 0)
    (hlen : zn.toNatClampNeg = cs.length) (h0 : 0 < cs.length) (hbig : cs.length ≤ 536870912) (hall : ∀ c ∈ cs, ¬ 255 < c) (hfr : 4 ≤ R.frames) (hlo : W + 65 ≤ R.locals) :
    Back l R p e below s args New1.yN len W (fun P a => a = #[.ref x, .ref b] ∧ P.U.heap = h ∧ P.cells + 1 ≤ R.cells ∧ P.slots + cs.length ≤ R.slots)
      (fun P _ v B => ∃ L, QA Z x zn cs h v B.U.heap L ∧ B.locs = P.locs ++ L ∧ B.cells = P.cells + 1 ∧ B.slots = P.slots + cs.length) := by
  obtain ⟨A, K1, K2, K3, K4, K5, K6⟩ := K
  have e : A.slots.size = cs.length := K3.trans hlen
  have hat : ∀ (i : Nat) (hi : i < cs.length), A.slots[i]? = some (.int cs[i]) := fun i hi => by rw [K5 i (by omega)]; simp [List.getD_eq_getElem?_getD, hi]
  have hcv : ∀ (i : Nat) (hi : i < cs.length), cv A i = cs[i] := fun i hi => by unfold cv; rw [hat i hi]
  have hty : Typed .char A := fun i v hv => by
    have hi : i < A.slots.size := (Array.getElem?_eq_some_iff.mp hv).1
    have q := K5 i hi
    rw [hv] at q
    rw [Option.some.inj q]
    exact K6 i hi
  refine Back.mono (back hZ hw wi E V C K1 hty S hz (by omega) (by omega) (fun i hi => by rw [hcv i (by omega)]; exact hall _ (List.getElem_mem _)) hfr hlo) (fun P a hp => ⟨hp.1, hp.2.1, hp.2.2.1, by rw [e]; exact hp.2.2.2⟩) (fun P a v B hp hq => ?_)
  obtain ⟨L, ⟨q1, q2, q3, q4, q5, q6, q7, ⟨V', v1, v2, v3, v4, v5⟩, q9⟩, hl, hc, hs⟩ := hq
  refine ⟨L, ⟨q1, q2, q3, q4, q5, q6, q7, ⟨V'.cls, v3, V', v1, rfl, by rw [v4, e, hlen], K4, fun i hi => ?_, fun i hi => ?_⟩, q9⟩, hl, hc, by rw [hs, e]⟩
  · have hi' : i < cs.length := by omega
    rw [v5 i (by omega), hcv i hi']; simp [List.getD_eq_getElem?_getD, hi']
  · have hi' : i < cs.length := by omega
    simp only [List.getD_eq_getElem?_getD, List.getElem?_map, List.getElem?_eq_getElem hi', Option.map_some, Option.getD_some]
    exact fits_lo8 _
end StrChars.Road
namespace StrChars.Road
open Jvm Sem ClassFile Op Lib Jvm.Stand Jvm.Free Jvm.Free.XT
/-- WHAT COMES BACK, in the writer's own shape -/
def QV (Z : State) (x : Addr) (N : Int32) (bs : List Int32) (h : Heap) (n0 : Nat) (v : Option Value) (h' : Heap) (L : List Loc) : Prop := v = none ∧ RoadKit.Fr n0 L ∧ RoadKit.Keep h h' [x] ∧ RoadKit.Exa Z h' x ST ∧ RoadKit.Fld Z h' x ST "coder" "B" (.int 0) ∧
  ∃ (t : Addr) (kb : ClassId), n0 ≤ t ∧ h.size ≤ t ∧ ¬ t = x ∧ RoadKit.Fld Z h' x ST "value" "[B" (.ref t) ∧ RoadKit.Arv Z h' t kb .byte N (bs.map Value.int) (.int 0)
/-- **new String(chars) AT A CALL, FOR THE WRITER**: a char[] of n known ints, each 0 to 255 -/
theorem backV {p : Program} {l : Launch} {e : Env} {R : Room} {s : State} {args : Array Value} {below : List Frame} {len W : Nat} {Z : State} {a0 : Array Value} {h : Heap} (hZ : Z.Warmed39 s.vm) (hw : ∀ d ∈ words, d.before a0 Z = true) {kI : Nat} (wi : (Jvm.Cond.instantiable ST kI).before a0 Z = true)
    {x b : Addr} {kC : ClassId} {cs bs : List Int32} {d v0 c0 : Value} {z N : Int32} {n n0 : Nat} (hx0 : n0 ≤ x) (hh0 : n0 ≤ h.size) (E : RoadKit.Exa Z h x ST) (V : RoadKit.Fld Z h x ST "value" "[B" v0) (C : RoadKit.Fld Z h x ST "coder" "B" c0) (K : RoadKit.Arv Z h b kC .char N (cs.map Value.int) d) (S : RoadKit.Sta Z h ST "COMPACT_STRINGS" "Z" (.int z)) (hz : ¬ z = 0)
    (hn : cs.length = n) (hN : N = Int32.ofNat n) (l0 : 0 < n) (l2 : n ≤ 4000) (hp : ∀ c ∈ cs, ¬ c < 0 ∧ ¬ (255 : Int32) < c) (hb : bs = cs.map (fun c => c.toInt8.toInt32)) (hfr : 4 ≤ R.frames) (hlo : W + 65 ≤ R.locals) :
    Back l R p e below s args (⟨"java/lang/String", "<init>", "([C)V"⟩ : MethodName) len W (fun P a => a = #[.ref x, .ref b] ∧ P.U.heap = h ∧ P.cells + 1 ≤ R.cells ∧ P.slots + n ≤ R.slots)
      (fun P _ v B => ∃ L, QV Z x N bs h n0 v B.U.heap L ∧ B.locs = P.locs ++ L ∧ B.cells = P.cells + 1 ∧ B.slots = P.slots + n) := by
  subst hn hN hb
  refine Back.mono (backArv hZ hw wi E V C K S hz (n32 (by omega)) l0 (by omega) (fun c hc => (hp c hc).2) hfr hlo) (fun P a hp => hp) (fun P a v B hp hq => ?_)
  obtain ⟨L, ⟨q1, q2, q3, q4, q5, q6, q7, ⟨kb, v1, v2⟩, q9⟩, hl, hc, hs⟩ := hq
  exact ⟨L, ⟨q1, fun y hy => by rw [q2 y hy]; exact hx0, q3, q5, q7, h.size, kb, hh0, Nat.le_refl _, Nat.ne_of_gt E.lt, q6, by rw [List.map_map]; exact v2⟩, hl, hc, hs⟩
end StrChars.Road
namespace StrChars
open Jvm Sem ClassFile Op Lib Jvm.Stand Jvm.Free.XT Jvm.Free.ALB Jvm.Free.JM Jvm.Free
open Jvm.Lib.Cold (StaticIs)
def hi8 (x : Int32) : Int32 := lo8 (x >>> ((8 : Int32) &&& 31))
/-- what StringUTF16.getChar makes of two bytes -/
def pairCh (u v : Int32) : Int32 := (((u &&& 255) <<< ((0 : Int32) &&& 31)) ||| ((v &&& 255) <<< ((8 : Int32) &&& 31))).toUInt32.toUInt16.toUInt32.toInt32
theorem shr0 (c : Int32) : c >>> ((0 : Int32) &&& 31) = c := by
  have e : ((0 : Int32) &&& 31) = 0 := by decide
  rw [e]
  apply Int32.toBitVec_inj.mp
  rw [Int32.toBitVec_shiftRight]
  have e1 : ((0 : Int32).toBitVec.smod 32) = 0#32 := by decide
  rw [e1, BitVec.sshiftRight_eq']
  exact BitVec.sshiftRight_zero
theorem lo8_and (x : Int32) : (lo8 x &&& 255).toBitVec.toNat = x.toBitVec.toNat % 256 := by
  have h : (lo8 x).toBitVec = (x.toBitVec.signExtend 8).signExtend 32 := by rw [lo8, Int8.toBitVec_toInt32, Int32.toBitVec_toInt8]
  rw [Int32.toBitVec_and, BitVec.toNat_and, h]
  have e : ((x.toBitVec.signExtend 8).signExtend 32).toNat % 256 = x.toBitVec.toNat % 256 := by
    rw [BitVec.toNat_signExtend]
    have hlt := x.toBitVec.isLt
    simp only [BitVec.toNat_setWidth, BitVec.toNat_signExtend]
    split <;> split <;> omega
  rw [← e]
  exact Nat.and_two_pow_sub_one_eq_mod _ 8
theorem pair_says {c : Int32} (h0 : ¬ c < 0) (h1 : ¬ 65535 < c) : pairCh (lo8 c) (hi8 c) = c := by
  rw [Int32.lt_iff_toInt_lt] at h0 h1
  have e0 : (0 : Int32).toInt = 0 := rfl
  have e1 : (65535 : Int32).toInt = 65535 := rfl
  have hc : c.toInt = c.toBitVec.toNat := by
    have := c.toBitVec.isLt
    have e : c.toInt = c.toBitVec.toInt := rfl
    rw [e] at h0 h1
    rw [e]
    rw [BitVec.toInt_eq_toNat_cond] at h0 h1 ⊢
    split at h0 <;> split <;> omega
  have hn : c.toBitVec.toNat < 65536 := by omega
  have a1 := lo8_and c
  have a2 : (hi8 c &&& 255).toBitVec.toNat = c.toBitVec.toNat / 256 := by
    rw [hi8, lo8_and]
    have e : ((8 : Int32) &&& 31) = 8 := by decide
    rw [e, Int32.toBitVec_shiftRight]
    have e2 : ((8 : Int32).toBitVec.smod 32) = 8#32 := by decide
    rw [e2, BitVec.sshiftRight_eq', BitVec.toNat_sshiftRight_of_msb_false (by rw [BitVec.msb_eq_false_iff_two_mul_lt]; omega)]
    show c.toBitVec.toNat >>> 8 % 256 = _
    rw [Nat.shiftRight_eq_div_pow]
    omega
  unfold pairCh
  apply Int32.toBitVec_inj.mp
  apply BitVec.eq_of_toNat_eq
  have f0 : ((0 : Int32) &&& 31) = 0 := by decide
  have f8 : ((8 : Int32) &&& 31) = 8 := by decide
  rw [f0, f8]
  have g : (((lo8 c &&& 255) <<< (0 : Int32)) ||| ((hi8 c &&& 255) <<< (8 : Int32))).toBitVec.toNat = c.toBitVec.toNat := by
    rw [Int32.toBitVec_or, Int32.toBitVec_shiftLeft, Int32.toBitVec_shiftLeft]
    have s0 : ((0 : Int32).toBitVec.smod 32) = 0#32 := by decide
    have s8 : ((8 : Int32).toBitVec.smod 32) = 8#32 := by decide
    rw [s0, s8, BitVec.toNat_or]
    simp only [BitVec.shiftLeft_eq', BitVec.toNat_shiftLeft, a1, a2]
    show (c.toBitVec.toNat % 256) <<< 0 % 2 ^ 32 ||| (c.toBitVec.toNat / 256) <<< 8 % 2 ^ 32 = _
    rw [Nat.shiftLeft_zero, Nat.mod_eq_of_lt (show c.toBitVec.toNat % 256 < 2 ^ 32 by omega), Nat.mod_eq_of_lt (show (c.toBitVec.toNat / 256) <<< 8 < 2 ^ 32 by rw [Nat.shiftLeft_eq]; omega), Nat.or_comm, ← Nat.shiftLeft_add_eq_or_of_lt (by omega), Nat.shiftLeft_eq]
    omega
  show BitVec.toNat (((((lo8 c &&& 255) <<< (0 : Int32)) ||| ((hi8 c &&& 255) <<< (8 : Int32))).toBitVec.setWidth 16).setWidth 32) = _
  rw [BitVec.toNat_setWidth, BitVec.toNat_setWidth, g]
  omega
end StrChars
namespace StrChars
open Jvm Sem ClassFile Op Lib Jvm.Stand Jvm.Free.XT Jvm.Free.ALB Jvm.Free.JM Jvm.Free
open Jvm.Lib.Cold (StaticIs)
theorem shr1 {n : Nat} (h : 2 * n < 2 ^ 31) : Int32.ofNat (2 * n) >>> ((1 : Int32) &&& 31) = Int32.ofNat n := by
  have e : ((1 : Int32) &&& 31) = 1 := by decide
  rw [e]
  apply Int32.toBitVec_inj.mp
  rw [Int32.toBitVec_shiftRight]
  have e1 : ((1 : Int32).toBitVec.smod 32) = 1#32 := by decide
  have hm : (BitVec.ofNat 32 (2 * n)).toNat = 2 * n := by rw [BitVec.toNat_ofNat, Nat.mod_eq_of_lt (by omega)]
  rw [e1, BitVec.sshiftRight_eq']
  apply BitVec.eq_of_toNat_eq
  show ((BitVec.ofNat 32 (2 * n)).sshiftRight 1).toNat = (BitVec.ofNat 32 n).toNat
  rw [BitVec.toNat_sshiftRight_of_msb_false (by rw [BitVec.msb_eq_false_iff_two_mul_lt, hm]; omega), hm, BitVec.toNat_ofNat, Nat.shiftRight_eq_div_pow]
  omega
/-- charAt's cast of a byte read back -/
def chr8 (u : Int32) : Int32 := (u &&& 255).toUInt32.toUInt16.toUInt32.toInt32
theorem chr8_lo8 {c : Int32} (h0 : ¬ c < 0) (h1 : ¬ 255 < c) : chr8 (lo8 c) = c := by
  have t : ∀ k : Fin 256, (Int32.ofNat k.val).toUInt32.toUInt16.toUInt32.toInt32 = Int32.ofNat k.val := by decide +kernel
  unfold chr8
  rw [lo8_mask h0 h1]
  rw [Int32.lt_iff_toInt_lt] at h0 h1
  have e0 : (0 : Int32).toInt = 0 := rfl
  have e1 : (255 : Int32).toInt = 255 := rfl
  obtain ⟨k, hk⟩ : ∃ k : Nat, c.toInt = k := ⟨c.toInt.toNat, by omega⟩
  have hx : c = Int32.ofNat k := Int32.toInt_inj.mp (by rw [hk, Int32.toInt_ofNat_small (by omega)])
  rw [hx]
  exact t ⟨k, by omega⟩
theorem narrow_ch {c : Int32} (h0 : ¬ c < 0) (h1 : ¬ 65535 < c) : narrow .char (.int c) = .int c := by
  have q : narrow .char (.int (pairCh (lo8 c) (hi8 c))) = .int (pairCh (lo8 c) (hi8 c)) := narrow_c _
  rwa [pair_says h0 h1] at q
/-- the array's cell V codes the n chars f 0 .. f (n - 1) by the coder cd, as the JDK does: coder 1 just where some char is above 255 -/
def Cod (cd : Int32) (n : Nat) (f : Nat → Int32) (V : Cell) : Prop := (cd = 0 ∧ V.slots.size = n ∧ ∀ j, j < n → V.slots[j]? = some (.int (lo8 (f j))) ∧ ¬ 255 < f j) ∨ (cd = 1 ∧ V.slots.size = 2 * n ∧ (∀ j, j < n → V.slots[2 * j]? = some (.int (lo8 (f j))) ∧ V.slots[2 * j + 1]? = some (.int (hi8 (f j)))) ∧ ∃ j, j < n ∧ 255 < f j)
theorem Cod.cd {cd : Int32} {n : Nat} {f : Nat → Int32} {V : Cell} (h : Cod cd n f V) : cd = 0 ∨ cd = 1 := h.imp (fun q => q.1) fun q => q.1
theorem Cod.len {cd : Int32} {n : Nat} {f : Nat → Int32} {V : Cell} (h : Cod cd n f V) (hs : V.slots.size < 2 ^ 31) : Int32.ofNat V.slots.size >>> (cd &&& 31) = Int32.ofNat n := by
  rcases h with ⟨rfl, h, -⟩ | ⟨rfl, h, -⟩
  · rw [shr0, h]
  · rw [h, shr1 (by omega)]
/-- **x is a String of the n chars f 0 .. f (n - 1)**, Latin-1 or UTF-16; its array at t has the cell V -/
def Txt (x t : Addr) (V : Cell) (cd : Int32) (n : Nat) (f : Nat → Int32) (U : State) : Prop := Exact "java/lang/String" x U ∧ Has x "java/lang/String" "value" "[B" (.ref t) U ∧ Has x "java/lang/String" "coder" "B" (.int cd) U ∧ XT.Arr .byte t V U ∧ Cod cd n f V ∧ ∀ j, j < n → ¬ f j < 0 ∧ ¬ 65535 < f j
theorem Txt.mv {x t : Addr} {V : Cell} {cd : Int32} {n : Nat} {f : Nat → Int32} {U U' : State} (h : Txt x t V cd n f U) (hal : U.vm.Alike U'.vm) (hh : U'.heap = U.heap) : Txt x t V cd n f U' := ⟨h.1.mv hal hh, h.2.1.mv hal hh, h.2.2.1.mv hal hh, h.2.2.2.1.mv hal hh, h.2.2.2.2⟩
namespace Cdr
def yN : MethodName := ⟨"java/lang/String", "coder", "()B"⟩
abbrev yB : ByteArray := jdk_42_method_152_code
theorem d0 : decode yB 0 = .ok (.getstatic 38, 3) := by decide +kernel
theorem d3 : decode yB 3 = .ok (.ifCond (.eq) 10, 3) := by decide +kernel
theorem d6 : decode yB 6 = .ok (.aload_n 0, 1) := by decide +kernel
theorem d7 : decode yB 7 = .ok (.getfield 15, 3) := by decide +kernel
theorem d10 : decode yB 10 = .ok (.goto 4, 3) := by decide +kernel
theorem d14 : decode yB 14 = .ok (.ireturn, 1) := by decide +kernel
def site : List Cond := [.fieldLink "java/lang/String" 38 "java/lang/String" "COMPACT_STRINGS" "Z", .fieldLink "java/lang/String" 15 "java/lang/String" "coder" "B"]
def tab : Cond := tabOf yN yB 1 (some .byte) site
def P (x : Addr) (cd z : Int32) (args : Array Value) (s : State) : Prop := args = #[.ref x] ∧ Has x "java/lang/String" "coder" "B" (.int cd) s ∧ (cd = 0 ∨ cd = 1) ∧ StaticIs s "java/lang/String" "COMPACT_STRINGS" "Z" (.int z) ∧ ¬ z = 0
def E (cd : Int32) (r : Option Value) (s u : State) : Prop := XT.PureE (some (.int cd)) r s u
theorem law (l : Launch) (x : Addr) (cd z : Int32) : Law l yN 1 0 0 0 yB 1 (some .byte) site (P x cd z) (E cd) [] 0 0 := by
  refine Law.of_walk (plainFor_of_name (by decide +kernel)) (by decide +kernel) (by decide +kernel) (by decide) (fun _ _ h => by rw [h.1]; rfl) (fun _ U U' hal hh h => ⟨h.1, h.2.1.mv hal hh, h.2.2.1, h.2.2.2.1.there hal hh, h.2.2.2.2⟩) (fun r U U' V V' h1 hal h2 h => XT.PureE.mv r U U' V V' h1 hal h2 h) ?_
  intro p e s m args below meth c s₁ X0 hexec hbytes hml hret hlk hnm hown hh0 W hP
  obtain ⟨rfl, hx, hc, s1, hz⟩ := hP
  have c1 : Steps p.tables e below (s₁.setTop (entryFrame m #[.ref x] 1)) (s₁.setTop (mkF m 0 #[.val (.ref x)] [])) := entry rfl
  obtain ⟨T2, X2, q2, st2⟩ := X0.sget hexec hown (wk W (.fieldLink "java/lang/String" 38 "java/lang/String" "COMPACT_STRINGS" "Z")) s1 (fun _ _ h => by rw [hh0]; exact h) (g := (mkF m 0 #[.val (.ref x)] [])) rfl (hb hbytes d0)
  have hh2 := q2.trans hh0
  have c3 : Steps p.tables e below (s₁.setTop (entryFrame m #[.ref x] 1)) (T2.setTop (mkF m 7 #[.val (.ref x)] [.ref x])) := (c1.trans (st2 _ (Steps.refl _))).trans (by
    refine XS.ifNo X2.here hexec rfl (hb hbytes d3) rfl (i0_eq_f hz) ?_
    refine XS.aloadN X2.here hexec rfl (hb hbytes d6) rfl rfl ?_
    exact Steps.refl _)
  obtain ⟨T4, X4, q4, st4⟩ := X2.hget hexec hown (wk W (.fieldLink "java/lang/String" 15 "java/lang/String" "coder" "B")) (hx.mv X2.warmed.alike hh2) (g := (mkF m 7 #[.val (.ref x)] [.ref x])) rfl (rest := []) rfl (hb hbytes d7)
  have c5 : Steps p.tables e below (s₁.setTop (entryFrame m #[.ref x] 1)) (T4.setTop (mkF m 14 #[.val (.ref x)] [.int cd])) := (c3.trans (st4 _ (Steps.refl _))).trans (by
    refine XS.goto X4.here hexec rfl (pc0 := 10) rfl (hb hbytes d10) (by decide) rfl ?_
    exact Steps.refl _)
  exact ⟨T4, some (.int cd), _, _, _, X4, rfl, rfl, rfl, (fun h => by cases h), ⟨rfl, q4.trans hh2⟩, fun fs hl => c5.trans (X4.ireturnOut hexec hret (by rcases hc with rfl | rfl <;> rfl) (Or.inr (Or.inr (Or.inl rfl))) (hb hbytes d14) hl)⟩
end Cdr
namespace Len
def yN : MethodName := ⟨"java/lang/String", "length", "()I"⟩
abbrev yB : ByteArray := jdk_42_method_54_code
theorem d0 : decode yB 0 = .ok (.aload_n 0, 1) := by decide +kernel
theorem d1 : decode yB 1 = .ok (.getfield 9, 3) := by decide +kernel
theorem d4 : decode yB 4 = .ok (.arraylength, 1) := by decide +kernel
theorem d5 : decode yB 5 = .ok (.aload_n 0, 1) := by decide +kernel
theorem d6 : decode yB 6 = .ok (.invokevirtual 335, 3) := by decide +kernel
theorem d9 : decode yB 9 = .ok (.ishr, 1) := by decide +kernel
theorem d10 : decode yB 10 = .ok (.ireturn, 1) := by decide +kernel
def site : List Cond := [.fieldLink "java/lang/String" 9 "java/lang/String" "value" "[B", Cdr.tab] ++ virtW "java/lang/String" 335 "java/lang/String" Cdr.yN Cdr.yN
def tab : Cond := tabOf yN yB 1 (some .int) site
def P (x t : Addr) (V : Cell) (cd : Int32) (n : Nat) (f : Nat → Int32) (z : Int32) (args : Array Value) (s : State) : Prop := args = #[.ref x] ∧ Txt x t V cd n f s ∧ StaticIs s "java/lang/String" "COMPACT_STRINGS" "Z" (.int z) ∧ ¬ z = 0
def E (n : Nat) (r : Option Value) (s u : State) : Prop := XT.PureE (some (.int (Int32.ofNat n))) r s u
/-- length() of a String of n chars, in either coding -/
theorem law (l : Launch) (x t : Addr) (V : Cell) (cd : Int32) (n : Nat) (f : Nat → Int32) (z : Int32) : Law l yN 1 0 1 13 yB 1 (some .int) site (P x t V cd n f z) (E n) [] 0 0 := by
  refine Law.of_walk (plainFor_of_name (by decide +kernel)) (by decide +kernel) (by decide +kernel) (by decide) (fun _ _ h => by rw [h.1]; rfl) (fun _ U U' hal hh h => ⟨h.1, h.2.1.mv hal hh, h.2.2.1.there hal hh, h.2.2.2⟩) (fun r U U' V V' h1 hal h2 h => XT.PureE.mv r U U' V V' h1 hal h2 h) ?_
  intro p e s m args below meth c s₁ X0 hexec hbytes hml hret hlk hnm hown hh0 W hP
  obtain ⟨rfl, hx, s1, hz⟩ := hP
  have v31 := hx.2.2.2.1.2.2.2
  have c1 : Steps p.tables e below (s₁.setTop (entryFrame m #[.ref x] 1)) (s₁.setTop (mkF m 1 #[.val (.ref x)] [.ref x])) := Steps.trans (entry rfl) (by
    show Steps p.tables e below (s₁.setTop (mkF m 0 #[.val (.ref x)] [])) _
    refine XS.aloadN X0.here hexec rfl (hb hbytes d0) rfl rfl ?_
    exact Steps.refl _)
  obtain ⟨T2, X2, q2, st2⟩ := X0.hget hexec hown (wk W (.fieldLink "java/lang/String" 9 "java/lang/String" "value" "[B")) (hx.mv X0.warmed.alike hh0).2.1 (g := (mkF m 1 #[.val (.ref x)] [.ref x])) rfl (rest := []) rfl (hb hbytes d1)
  have hh2 := q2.trans hh0
  have hx2 := hx.mv X2.warmed.alike hh2
  have c3 : Steps p.tables e below (s₁.setTop (entryFrame m #[.ref x] 1)) (T2.setTop (mkF m 6 #[.val (.ref x)] [.ref x, .int (Int32.ofNat V.slots.size)])) := (c1.trans (st2 _ (Steps.refl _))).trans (by
    refine X2.alen hexec hx2.2.2.2.1 rfl rfl (hb hbytes d4) ?_
    refine XS.aloadN X2.here hexec rfl (hb hbytes d5) rfl rfl ?_
    exact Steps.refl _)
  obtain ⟨v4, T4, X4, E4, g4⟩ := X2.callV hexec (Cdr.law l x cd z) hown (wks W (virtW "java/lang/String" 335 "java/lang/String" Cdr.yN Cdr.yN)) rfl (by decide) (wk W Cdr.tab) (W := 1) (Nat.le_of_ble_eq_true rfl) (Nat.le_of_ble_eq_true rfl) (Nat.le_refl _) (Nat.le_refl _) (hx2.1.fc X2.warmed.alike) hx2.1.is (g := (mkF m 6 #[.val (.ref x)] [.ref x, .int (Int32.ofNat V.slots.size)])) rfl (by rw [hml]; rfl) c3 (argsL := []) (rest := [.int (Int32.ofNat V.slots.size)]) rfl rfl (by show 2 * 0 + (1 + 0) ≤ _; decide) (hb hbytes d6) (⟨rfl, hx2.2.2.1, hx.2.2.2.2.1.cd, s1.there X2.warmed.alike hh2, hz⟩)
  obtain ⟨rfl, q4⟩ := E4
  have c5 : Steps p.tables e below (s₁.setTop (entryFrame m #[.ref x] 1)) (T4.setTop (mkF m 10 #[.val (.ref x)] [.int (Int32.ofNat V.slots.size >>> (cd &&& 31))])) := Steps.trans g4 (by
    refine ishr X4.here hexec rfl (hb hbytes d9) rfl ?_
    exact Steps.refl _)
  rw [hx.2.2.2.2.1.len v31] at c5
  exact ⟨T4, some (.int (Int32.ofNat n)), _, _, _, X4, rfl, rfl, rfl, (fun h => by cases h), ⟨rfl, q4.trans hh2⟩, fun fs hl => c5.trans (X4.ireturnOut hexec hret rfl (Or.inl rfl) (hb hbytes d10) hl)⟩
theorem pays {l : Launch} {R : Room} {p : Program} {e : Env} {below : List Frame} {s : State} {sargs : Array Value} {len W : Nat} (x t : Addr) (V : Cell) (cd : Int32) (n : Nat) (f : Nat → Int32) (z : Int32) (htab : tab.before sargs s = true) (hfr : 2 ≤ R.frames) (hlo : W + 25 ≤ R.locals) :
    Back l R p e below s sargs yN len W (fun A₁ a₁ => A₁.cells + 0 ≤ R.cells ∧ A₁.slots + 0 ≤ R.slots ∧ P x t V cd n f z a₁ A₁.U) (fun A₁ _ v₁ B₁ => E n v₁ A₁.U B₁.U ∧ B₁.locs = A₁.locs ++ [] ∧ B₁.cells = A₁.cells + 0 ∧ B₁.slots = A₁.slots + 0) :=
  (law l x t V cd n f z).pays htab hfr (by omega)
end Len
namespace IsL
def yN : MethodName := ⟨"java/lang/String", "isLatin1", "()Z"⟩
abbrev yB : ByteArray := jdk_42_method_154_code
theorem d0 : decode yB 0 = .ok (.getstatic 38, 3) := by decide +kernel
theorem d3 : decode yB 3 = .ok (.ifCond (.eq) 14, 3) := by decide +kernel
theorem d6 : decode yB 6 = .ok (.aload_n 0, 1) := by decide +kernel
theorem d7 : decode yB 7 = .ok (.getfield 15, 3) := by decide +kernel
theorem d10 : decode yB 10 = .ok (.ifCond (.ne) 7, 3) := by decide +kernel
theorem d13 : decode yB 13 = .ok (.iconst 1, 1) := by decide +kernel
theorem d14 : decode yB 14 = .ok (.goto 4, 3) := by decide +kernel
theorem d17 : decode yB 17 = .ok (.iconst 0, 1) := by decide +kernel
theorem d18 : decode yB 18 = .ok (.ireturn, 1) := by decide +kernel
def site : List Cond := [.fieldLink "java/lang/String" 38 "java/lang/String" "COMPACT_STRINGS" "Z", .fieldLink "java/lang/String" 15 "java/lang/String" "coder" "B"]
def tab : Cond := tabOf yN yB 1 (some .boolean) site
def P (x : Addr) (cd z : Int32) (args : Array Value) (s : State) : Prop := args = #[.ref x] ∧ Has x "java/lang/String" "coder" "B" (.int cd) s ∧ (cd = 0 ∨ cd = 1) ∧ StaticIs s "java/lang/String" "COMPACT_STRINGS" "Z" (.int z) ∧ ¬ z = 0
def E (cd : Int32) (r : Option Value) (s u : State) : Prop := XT.PureE (some (.int (1 - cd))) r s u
theorem law (l : Launch) (x : Addr) (cd z : Int32) : Law l yN 1 0 0 0 yB 1 (some .boolean) site (P x cd z) (E cd) [] 0 0 := by
  refine Law.of_walk (plainFor_of_name (by decide +kernel)) (by decide +kernel) (by decide +kernel) (by decide) (fun _ _ h => by rw [h.1]; rfl) (fun _ U U' hal hh h => ⟨h.1, h.2.1.mv hal hh, h.2.2.1, h.2.2.2.1.there hal hh, h.2.2.2.2⟩) (fun r U U' V V' h1 hal h2 h => XT.PureE.mv r U U' V V' h1 hal h2 h) ?_
  intro p e s m args below meth c s₁ X0 hexec hbytes hml hret hlk hnm hown hh0 W hP
  obtain ⟨rfl, hx, hc, s1, hz⟩ := hP
  have c1 : Steps p.tables e below (s₁.setTop (entryFrame m #[.ref x] 1)) (s₁.setTop (mkF m 0 #[.val (.ref x)] [])) := entry rfl
  obtain ⟨T2, X2, q2, st2⟩ := X0.sget hexec hown (wk W (.fieldLink "java/lang/String" 38 "java/lang/String" "COMPACT_STRINGS" "Z")) s1 (fun _ _ h => by rw [hh0]; exact h) (g := (mkF m 0 #[.val (.ref x)] [])) rfl (hb hbytes d0)
  have hh2 := q2.trans hh0
  have c3 : Steps p.tables e below (s₁.setTop (entryFrame m #[.ref x] 1)) (T2.setTop (mkF m 7 #[.val (.ref x)] [.ref x])) := (c1.trans (st2 _ (Steps.refl _))).trans (by
    refine XS.ifNo X2.here hexec rfl (hb hbytes d3) rfl (i0_eq_f hz) ?_
    refine XS.aloadN X2.here hexec rfl (hb hbytes d6) rfl rfl ?_
    exact Steps.refl _)
  obtain ⟨T4, X4, q4, st4⟩ := X2.hget hexec hown (wk W (.fieldLink "java/lang/String" 15 "java/lang/String" "coder" "B")) (hx.mv X2.warmed.alike hh2) (g := (mkF m 7 #[.val (.ref x)] [.ref x])) rfl (rest := []) rfl (hb hbytes d7)
  have c5 : Steps p.tables e below (s₁.setTop (entryFrame m #[.ref x] 1)) (T4.setTop (mkF m 10 #[.val (.ref x)] [.int cd])) := c3.trans (st4 _ (Steps.refl _))
  have c6 : Steps p.tables e below (s₁.setTop (entryFrame m #[.ref x] 1)) (T4.setTop (mkF m 18 #[.val (.ref x)] [.int (1 - cd)])) := by
    rcases hc with rfl | rfl
    · exact c5.trans (by
        refine XS.ifNo X4.here hexec rfl (hb hbytes d10) rfl (i0_ne_f rfl) ?_
        refine iconstV X4.here hexec rfl 1 (hb hbytes d13) (by decide) ?_
        refine XS.goto X4.here hexec rfl (pc0 := 14) rfl (hb hbytes d14) (by decide) rfl ?_
        exact Steps.refl _)
    · exact c5.trans (by
        refine XS.ifYes X4.here hexec rfl (pc0 := 10) rfl (hb hbytes d10) rfl (i0_ne_t (by decide)) (by decide) rfl ?_
        refine iconstV X4.here hexec rfl 0 (hb hbytes d17) (by decide) ?_
        exact Steps.refl _)
  exact ⟨T4, some (.int (1 - cd)), _, _, _, X4, rfl, rfl, rfl, (fun h => by cases h), ⟨rfl, q4.trans hh2⟩, fun fs hl => c6.trans (X4.ireturnOut hexec hret (by rcases hc with rfl | rfl <;> rfl) (Or.inr (Or.inl rfl)) (hb hbytes d18) hl)⟩
end IsL
namespace LChA
def yN : MethodName := ⟨"java/lang/StringLatin1", "charAt", "([BI)C"⟩
abbrev yB : ByteArray := jdk_43_method_2_code
theorem d0 : decode yB 0 = .ok (.iload_n 1, 1) := by decide +kernel
theorem d1 : decode yB 1 = .ok (.aload_n 0, 1) := by decide +kernel
theorem d2 : decode yB 2 = .ok (.arraylength, 1) := by decide +kernel
theorem d3 : decode yB 3 = .ok (.invokestatic 9, 3) := by decide +kernel
theorem d6 : decode yB 6 = .ok (.aload_n 0, 1) := by decide +kernel
theorem d7 : decode yB 7 = .ok (.iload_n 1, 1) := by decide +kernel
theorem d8 : decode yB 8 = .ok (.baload, 1) := by decide +kernel
theorem d9 : decode yB 9 = .ok (.sipush 255, 3) := by decide +kernel
theorem d12 : decode yB 12 = .ok (.iand, 1) := by decide +kernel
theorem d13 : decode yB 13 = .ok (.i2c, 1) := by decide +kernel
theorem d14 : decode yB 14 = .ok (.ireturn, 1) := by decide +kernel
def site : List Cond := [JO.Str_checkIndex.tab] ++ staticW "java/lang/StringLatin1" 9 JO.Str_checkIndex.yN
def tab : Cond := tabOf yN yB 2 (some .char) site
def P (t : Addr) (V : Cell) (i : Nat) (u : Int32) (fm : Value) (args : Array Value) (s : State) : Prop := args = #[.ref t, .int (Int32.ofNat i)] ∧ XT.Arr .byte t V s ∧ V.slots[i]? = some (.int u) ∧ (StaticIs s "jdk/internal/util/Preconditions" "SIOOBE_FORMATTER" "Ljava/util/function/BiFunction;" fm ∧ fm.isRef = true)
def E (u : Int32) (r : Option Value) (s w : State) : Prop := XT.PureE (some (.int (chr8 u))) r s w
theorem law (l : Launch) (t : Addr) (V : Cell) (i : Nat) (u : Int32) (fm : Value) : Law l yN 2 2 2 27 yB 2 (some .char) site (P t V i u fm) (E u) [] 0 0 := by
  refine Law.of_walk (plainFor_of_name (by decide +kernel)) (by decide +kernel) (by decide +kernel) (by decide) (fun _ _ h => by rw [h.1]; rfl) (fun _ U U' hal hh h => ⟨h.1, h.2.1.mv hal hh, h.2.2.1, h.2.2.2.1.there hal hh, h.2.2.2.2⟩) (fun r U U' V V' h1 hal h2 h => XT.PureE.mv r U U' V V' h1 hal h2 h) ?_
  intro p e s m args below meth c s₁ X0 hexec hbytes hml hret hlk hnm hown hh0 W hP
  obtain ⟨rfl, hV, hu, s1, rf⟩ := hP
  have v31 := hV.2.2.2
  have hi : i < V.slots.size := (Array.getElem?_eq_some_iff.mp hu).1
  have c1 : Steps p.tables e below (s₁.setTop (entryFrame m #[.ref t, .int (Int32.ofNat i)] 2)) (s₁.setTop (mkF m 0 #[.val (.ref t), .val (.int (Int32.ofNat i))] [])) := entry rfl
  have c2 : Steps p.tables e below (s₁.setTop (entryFrame m #[.ref t, .int (Int32.ofNat i)] 2)) (s₁.setTop (mkF m 3 #[.val (.ref t), .val (.int (Int32.ofNat i))] [.int (Int32.ofNat V.slots.size), .int (Int32.ofNat i)])) := c1.trans (by
    refine XS.iloadN X0.here hexec rfl (hb hbytes d0) rfl ?_
    refine XS.aloadN X0.here hexec rfl (hb hbytes d1) rfl rfl ?_
    refine X0.alen hexec (hV.mv X0.warmed.alike hh0) rfl rfl (hb hbytes d2) ?_
    exact Steps.refl _)
  obtain ⟨v3, T3, X3, E3, g3⟩ := X0.callS hexec (JO.Str_checkIndex.law l (Int32.ofNat i) (Int32.ofNat V.slots.size) fm) hown (wks W (staticW "java/lang/StringLatin1" 9 JO.Str_checkIndex.yN)) (wk W JO.Str_checkIndex.tab) (W := 0) (Nat.le_of_ble_eq_true rfl) (Nat.le_of_ble_eq_true rfl) (Nat.le_refl _) (Nat.le_refl _) (g := (mkF m 3 #[.val (.ref t), .val (.int (Int32.ofNat i))] [.int (Int32.ofNat V.slots.size), .int (Int32.ofNat i)])) rfl (by rw [hml]; rfl) c2 (argsL := [.int (Int32.ofNat i), .int (Int32.ofNat V.slots.size)]) (rest := []) rfl rfl (by show 2 * 0 + 0 ≤ _; decide) (hb hbytes d3) (⟨rfl, rf, s1.there X0.warmed.alike hh0, Int32.ofNat_not_neg (by omega), lt32 v31 hi⟩)
  obtain ⟨rfl, q3⟩ := E3
  have hh3 := q3.trans hh0
  have c4 : Steps p.tables e below (s₁.setTop (entryFrame m #[.ref t, .int (Int32.ofNat i)] 2)) (T3.setTop (mkF m 14 #[.val (.ref t), .val (.int (Int32.ofNat i))] [.int (chr8 u)])) := Steps.trans g3 (by
    refine XS.aloadN X3.here hexec rfl (hb hbytes d6) rfl rfl ?_
    refine XS.iloadN X3.here hexec rfl (hb hbytes d7) rfl ?_
    refine X3.aget hexec (hV.mv X3.warmed.alike hh3) rfl hu rfl rfl (hb hbytes d8) ?_
    refine sipushV X3.here hexec rfl 255 (hb hbytes d9) (by decide) ?_
    refine XS.iand X3.here hexec rfl (hb hbytes d12) rfl ?_
    refine i2c X3.here hexec rfl (hb hbytes d13) rfl ?_
    exact Steps.refl _)
  exact ⟨T3, some (.int (chr8 u)), _, _, _, X3, rfl, rfl, rfl, (fun h => by cases h), ⟨rfl, hh3⟩, fun fs hl => c4.trans (X3.ireturnOut hexec hret (narrow_c _) (Or.inr (Or.inr (Or.inr (Or.inl rfl)))) (hb hbytes d14) hl)⟩
end LChA
end StrChars
namespace StrChars.Road
open Jvm Sem ClassFile Op Lib Jvm.Stand Jvm.Free Jvm.Free.XT
open Jvm.Lib.Cold (StaticIs)
theorem consq {a : Array Value} {s : State} {c : Jvm.Cond} {L : List Jvm.Cond} (h0 : c.before a s = true) (h : ∀ w ∈ L, w.before a s = true) : ∀ w ∈ c :: L, w.before a s = true := fun w hw => (List.mem_cons.mp hw).elim (fun e => e ▸ h0) (h w)
/-- the words of String.length(), either coding -/
abbrev wordsLen : List Jvm.Cond := [.code Len.yN Len.yB 1 (some .int), .initialized ST, .fieldLink ST 9 ST "value" "[B", .fieldLink ST 38 ST "COMPACT_STRINGS" "Z", .fieldLink ST 15 ST "coder" "B", .code Cdr.yN Cdr.yB 1 (some .byte), .methodLink ST 335 Cdr.yN, .declares Cdr.yN, .selects ST Cdr.yN Cdr.yN, .instanceMethod Cdr.yN]
theorem tabLen_of {a : Array Value} {s : State} (h : ∀ w ∈ wordsLen, w.before a s = true) : Len.tab.before a s = true := by
  have hc : Cdr.tab.before a s = true := unparts (wk h (.code Cdr.yN Cdr.yB 1 (some .byte))) (wks h (.initialized Cdr.yN.cls :: Cdr.site))
  have q := consq hc h
  exact unparts (wk q (.code Len.yN Len.yB 1 (some .int))) (wks q (.initialized Len.yN.cls :: Len.site))
theorem movedLen {Z s : State} {a0 args : Array Value} (hZ : Z.Warmed39 s.vm) (hw : ∀ d ∈ wordsLen, d.before a0 Z = true) : ∀ d ∈ wordsLen, d.before args s = true := fun d hd => by
  have q := hw d hd
  have t : ∀ d ∈ wordsLen, d = .arrayClass .byte ∨ (d.onTables && d.keepsFace) = true := by decide +kernel
  rcases t d hd with rfl | t
  · exact RoadKit.mvA hZ q
  · exact RoadKit.mv hZ q t
/-- the bytes of the chars cs, low before high -/
def wideBytes : List Int32 → List Value
  | [] => []
  | c :: cs => .int (lo8 c) :: .int (hi8 c) :: wideBytes cs
theorem wide_lo (d : Value) : ∀ (cs : List Int32) (j : Nat), j < cs.length → (wideBytes cs).getD (2 * j) d = .int (lo8 (cs.getD j 0))
  | [], j, h => absurd h (Nat.not_lt_zero j)
  | c :: cs, 0, _ => rfl
  | c :: cs, j + 1, h => by
    have q := wide_lo d cs j (by simpa using h)
    rw [show 2 * (j + 1) = 2 * j + 1 + 1 from by omega]
    simpa [wideBytes] using q
theorem wide_hi (d : Value) : ∀ (cs : List Int32) (j : Nat), j < cs.length → (wideBytes cs).getD (2 * j + 1) d = .int (hi8 (cs.getD j 0))
  | [], j, h => absurd h (Nat.not_lt_zero j)
  | c :: cs, 0, _ => rfl
  | c :: cs, j + 1, h => by
    have q := wide_hi d cs j (by simpa using h)
    rw [show 2 * (j + 1) + 1 = 2 * j + 1 + 1 + 1 from by omega]
    simpa [wideBytes] using q
theorem low_at (d : Value) (cs : List Int32) (j : Nat) (h : j < cs.length) : (cs.map fun c => Value.int (lo8 c)).getD j d = .int (lo8 (cs.getD j 0)) := by
  simp [List.getD_eq_getElem?_getD, h]
/-- an array of N2 bytes vs codes the chars cs by the coder cd -/
def CodA (cs : List Int32) (cd N2 : Int32) (vs : List Value) : Prop := (cd = 0 ∧ N2 = Int32.ofNat cs.length ∧ vs = (cs.map fun c => Value.int (lo8 c)) ∧ ∀ c ∈ cs, ¬ 255 < c) ∨ (cd = 1 ∧ N2 = Int32.ofNat (2 * cs.length) ∧ vs = wideBytes cs ∧ ∃ c ∈ cs, 255 < c)
theorem CodA.cod {cs : List Int32} {cd N2 : Int32} {vs : List Value} {V : Cell} (h : CodA cs cd N2 vs) (hn : 2 * cs.length < 2 ^ 31) (hs : V.slots.size = N2.toNatClampNeg) (hv : RoadKit.Has V vs (.int 0)) : Cod cd cs.length (fun j => cs.getD j 0) V := by
  rcases h with ⟨rfl, rfl, rfl, h⟩ | ⟨rfl, rfl, rfl, c, hc, hw⟩
  · rw [n32 (by omega)] at hs
    exact Or.inl ⟨rfl, hs, fun j hj => ⟨by rw [hv j (by omega), low_at _ _ _ hj], by
      have e : cs.getD j 0 = cs[j] := by simp [List.getD_eq_getElem?_getD, hj]
      show ¬ 255 < cs.getD j 0
      rw [e]; exact h _ (List.getElem_mem _)⟩⟩
  · rw [n32 (by omega)] at hs
    obtain ⟨j, hj, rfl⟩ := List.getElem_of_mem hc
    exact Or.inr ⟨rfl, hs, fun j hj => ⟨by rw [hv _ (by omega), wide_lo _ _ _ hj], by rw [hv _ (by omega), wide_hi _ _ _ hj]⟩, j, hj, by
      have e : cs.getD j 0 = cs[j] := by simp [List.getD_eq_getElem?_getD, hj]
      show 255 < cs.getD j 0
      rw [e]; exact hw⟩
/-- an object of exactly java/lang/String, its two fields found: as the laws ask it -/
theorem strObj {Z U : State} {a0 : Array Value} {kI : Nat} (wi : (Jvm.Cond.instantiable ST kI).before a0 Z = true) (al : Z.vm.Alike U.vm) {x : Addr} {v0 c0 : Value} (E : RoadKit.Exa Z U.heap x ST) (V : RoadKit.Fld Z U.heap x ST "value" "[B" v0) (C : RoadKit.Fld Z U.heap x ST "coder" "B" c0) :
    ∃ (D : Cell) (fV fC : Field), Blank ST x D U ∧ Found ST "value" "[B" fV U ∧ Found ST "coder" "B" fC U ∧ D.slots[fV.slot]? = some v0 ∧ D.slots[fC.slot]? = some c0 ∧ RoadKit.slotOf Z ST "value" "[B" = fV.slot ∧ RoadKit.slotOf Z ST "coder" "B" = fC.slot := by
  obtain ⟨D, cfV, kV, iV, fV, hD, gV, stV, knV, obV, asV, slV⟩ := V
  obtain ⟨D', cfC, kC, iC, fC, hD', gC, stC, -, -, asC, slC⟩ := C
  cases hD.symm.trans hD'
  obtain ⟨D2, kD, e1, e2, e3, e4, e5⟩ := E
  cases hD.symm.trans e1
  obtain ⟨c2, k2, i1, i2, i3, -⟩ := Cond.instantiable_spec wi
  cases e2.symm.trans i1
  cases e3.symm.trans i2
  obtain ⟨kU, u1, u2⟩ := al.2.2 _ _ e3
  exact ⟨D, fV, fC, ⟨hD, ⟨knV, fun q hq => by rw [hq] at obV; cases obV⟩, by rw [al.findClass]; exact e2, kU, u1, by rw [u2]; exact i3, by rw [u2]; exact e5 i3⟩, ⟨SBG.found_only al ⟨cfV, kV, iV, gV⟩, stV⟩, ⟨SBG.found_only al ⟨cfC, kC, iC, gC⟩, stC⟩, slV, slC, by simp [RoadKit.slotOf, gV], by simp [RoadKit.slotOf, gC]⟩
theorem sta_is {Z U : State} (al : Z.vm.Alike U.vm) {C n d : String} {v : Value} (S : RoadKit.Sta Z U.heap C n d v) : StaticIs U C n d v := by
  obtain ⟨cfS, iS, kS, fS, st, cS, t1, t2, t3, t4, t5, t6, t7⟩ := S
  exact StaticIs.there (s := { Z with heap := U.heap }) ⟨cfS, iS, kS, fS, st, cS, t1, t2, t3, t4, t5, (fun q => by rw [q] at t6; cases t6), t7⟩ al rfl
/-- **length() OF SUCH A STRING** -/
theorem lenW {p : Program} {l : Launch} {e : Env} {R : Room} {s : State} {args : Array Value} {below : List Frame} {len W : Nat} {Z : State} {a0 : Array Value} {h : Heap} (hZ : Z.Warmed39 s.vm) (hw : ∀ d ∈ wordsLen, d.before a0 Z = true) {kI : Nat} (wi : (Jvm.Cond.instantiable ST kI).before a0 Z = true)
    {x t : Addr} {kb : ClassId} {cs : List Int32} {cd N2 z : Int32} {vs : List Value} (E : RoadKit.Exa Z h x ST) (V : RoadKit.Fld Z h x ST "value" "[B" (.ref t)) (C : RoadKit.Fld Z h x ST "coder" "B" (.int cd)) (K : RoadKit.Arv Z h t kb .byte N2 vs (.int 0)) (hc : CodA cs cd N2 vs) (hb : ∀ c ∈ cs, ¬ c < 0 ∧ ¬ (65535 : Int32) < c)
    (S : RoadKit.Sta Z h ST "COMPACT_STRINGS" "Z" (.int z)) (hz : ¬ z = 0) (l2 : cs.length ≤ 4000) (hfr : 2 ≤ R.frames) (hlo : W + 25 ≤ R.locals) :
    Back l R p e below s args (⟨"java/lang/String", "length", "()I"⟩ : MethodName) len W (fun P a => a = #[.ref x] ∧ P.U.heap = h ∧ P.cells + 0 ≤ R.cells ∧ P.slots + 0 ≤ R.slots)
      (fun P _ v B => ∃ L, (v = some (.int (Int32.ofNat cs.length)) ∧ L = [] ∧ B.U.heap = h) ∧ B.locs = P.locs ++ L ∧ B.cells = P.cells + 0 ∧ B.slots = P.slots + 0) := by
  obtain ⟨A, K1, K2, K3, K4, K5, K6⟩ := K
  have hcod := hc.cod (by omega) K3 K5
  intro m meth c P g ig mk a X hg hsize hdg hW hn hp'
  obtain ⟨rfl, rfl, r1, r2⟩ := hp'
  have al : Z.vm.Alike P.U.vm := hZ.alike.trans X.warmed.alike
  obtain ⟨D, fV, fC, hB, F1, F2, g1, g2, -, -⟩ := strObj wi al E V C
  have hx : Txt x t A cd cs.length (fun j => cs.getD j 0) P.U := ⟨⟨_, hB.2.2.1, D, hB.1, rfl, by cases q : D.vm <;> first | rfl | exact absurd q (hB.2.1.2 _)⟩, Has.of hB F1 g1, Has.of hB F2 g2, ⟨K1.1, State.isArrayOf_alike al K1.2.1, K1.2.2, by rcases hcod with ⟨-, q, -⟩ | ⟨-, q, -⟩ <;> omega⟩, hcod, fun j hj => by
    have e : cs.getD j 0 = cs[j] := by simp [List.getD_eq_getElem?_getD, hj]
    show ¬ cs.getD j 0 < 0 ∧ ¬ 65535 < cs.getD j 0
    rw [e]; exact hb _ (List.getElem_mem _)⟩
  obtain ⟨v, B, X', ⟨⟨hv, hh⟩, hl, hk, hs⟩, st⟩ := Len.pays x t A cd cs.length (fun j => cs.getD j 0) z (tabLen_of (movedLen hZ hw)) hfr hlo m meth c P g ig mk _ X hg hsize hdg hW hn ⟨r1, r2, rfl, hx, sta_is al S, hz⟩
  exact ⟨v, B, X', ⟨[], ⟨hv, rfl, hh⟩, hl, hk, hs⟩, st⟩
end StrChars.Road
namespace StrChars
open Jvm Sem ClassFile Op Lib Jvm.Stand Jvm.Free.XT Jvm.Free.ALB Jvm.Free.JM Jvm.Free
open Jvm.Lib.Cold (StaticIs)
namespace Emp
def yN : MethodName := ⟨"java/lang/String", "isEmpty", "()Z"⟩
abbrev yB : ByteArray := jdk_42_method_55_code
theorem d0 : decode yB 0 = .ok (.aload_n 0, 1) := by decide +kernel
theorem d1 : decode yB 1 = .ok (.getfield 9, 3) := by decide +kernel
theorem d4 : decode yB 4 = .ok (.arraylength, 1) := by decide +kernel
theorem d5 : decode yB 5 = .ok (.ifCond (.ne) 7, 3) := by decide +kernel
theorem d8 : decode yB 8 = .ok (.iconst 1, 1) := by decide +kernel
theorem d9 : decode yB 9 = .ok (.goto 4, 3) := by decide +kernel
theorem d12 : decode yB 12 = .ok (.iconst 0, 1) := by decide +kernel
theorem d13 : decode yB 13 = .ok (.ireturn, 1) := by decide +kernel
def site : List Cond := [.fieldLink "java/lang/String" 9 "java/lang/String" "value" "[B"]
def tab : Cond := tabOf yN yB 1 (some .boolean) site
def P (x t : Addr) (V : Cell) (cd : Int32) (n : Nat) (f : Nat → Int32) (args : Array Value) (s : State) : Prop := args = #[.ref x] ∧ Txt x t V cd n f s
def E (n : Nat) (r : Option Value) (s u : State) : Prop := XT.PureE (some (.int (if n = 0 then 1 else 0))) r s u
/-- isEmpty() of a String of n chars -/
theorem law (l : Launch) (x t : Addr) (V : Cell) (cd : Int32) (n : Nat) (f : Nat → Int32) : Law l yN 1 0 0 0 yB 1 (some .boolean) site (P x t V cd n f) (E n) [] 0 0 := by
  refine Law.of_walk (plainFor_of_name (by decide +kernel)) (by decide +kernel) (by decide +kernel) (by decide) (fun _ _ h => by rw [h.1]; rfl) (fun _ U U' hal hh h => ⟨h.1, h.2.mv hal hh⟩) (fun r U U' V V' h1 hal h2 h => XT.PureE.mv r U U' V V' h1 hal h2 h) ?_
  intro p e s m args below meth c s₁ X0 hexec hbytes hml hret hlk hnm hown hh0 W hP
  obtain ⟨rfl, hx⟩ := hP
  have v31 := hx.2.2.2.1.2.2.2
  have c1 : Steps p.tables e below (s₁.setTop (entryFrame m #[.ref x] 1)) (s₁.setTop (mkF m 1 #[.val (.ref x)] [.ref x])) := Steps.trans (entry rfl) (by
    show Steps p.tables e below (s₁.setTop (mkF m 0 #[.val (.ref x)] [])) _
    refine XS.aloadN X0.here hexec rfl (hb hbytes d0) rfl rfl ?_
    exact Steps.refl _)
  obtain ⟨T2, X2, q2, st2⟩ := X0.hget hexec hown (wk W (.fieldLink "java/lang/String" 9 "java/lang/String" "value" "[B")) (hx.mv X0.warmed.alike hh0).2.1 (g := (mkF m 1 #[.val (.ref x)] [.ref x])) rfl (rest := []) rfl (hb hbytes d1)
  have hh2 := q2.trans hh0
  have hx2 := hx.mv X2.warmed.alike hh2
  have c3 : Steps p.tables e below (s₁.setTop (entryFrame m #[.ref x] 1)) (T2.setTop (mkF m 5 #[.val (.ref x)] [.int (Int32.ofNat V.slots.size)])) := (c1.trans (st2 _ (Steps.refl _))).trans (by
    refine X2.alen hexec hx2.2.2.2.1 rfl rfl (hb hbytes d4) ?_
    exact Steps.refl _)
  have hz : V.slots.size = 0 ↔ n = 0 := by
    rcases hx.2.2.2.2.1 with ⟨-, q, -⟩ | ⟨-, q, -⟩ <;> omega
  by_cases h0 : n = 0
  · have c4 : Steps p.tables e below (s₁.setTop (entryFrame m #[.ref x] 1)) (T2.setTop (mkF m 13 #[.val (.ref x)] [.int 1])) := c3.trans (by
      refine XS.ifNo X2.here hexec rfl (hb hbytes d5) rfl (i0_ne_f (by rw [hz.mpr h0]; rfl)) ?_
      refine iconstV X2.here hexec rfl 1 (hb hbytes d8) (by decide) ?_
      refine XS.goto X2.here hexec rfl (pc0 := 9) rfl (hb hbytes d9) (by decide) rfl ?_
      exact Steps.refl _)
    exact ⟨T2, some (.int 1), _, _, _, X2, rfl, rfl, rfl, (fun h => by cases h), ⟨by rw [if_pos h0], hh2⟩, fun fs hl => c4.trans (X2.ireturnOut hexec hret rfl (Or.inr (Or.inl rfl)) (hb hbytes d13) hl)⟩
  · have c4 : Steps p.tables e below (s₁.setTop (entryFrame m #[.ref x] 1)) (T2.setTop (mkF m 13 #[.val (.ref x)] [.int 0])) := c3.trans (by
      refine XS.ifYes X2.here hexec rfl (pc0 := 5) rfl (hb hbytes d5) rfl (i0_ne_t (nz32 v31 (by omega))) (by decide) rfl ?_
      refine iconstV X2.here hexec rfl 0 (hb hbytes d12) (by decide) ?_
      exact Steps.refl _)
    exact ⟨T2, some (.int 0), _, _, _, X2, rfl, rfl, rfl, (fun h => by cases h), ⟨by rw [if_neg h0], hh2⟩, fun fs hl => c4.trans (X2.ireturnOut hexec hret rfl (Or.inr (Or.inl rfl)) (hb hbytes d13) hl)⟩
theorem pays {l : Launch} {R : Room} {p : Program} {e : Env} {below : List Frame} {s : State} {sargs : Array Value} {len W : Nat} (x t : Addr) (V : Cell) (cd : Int32) (n : Nat) (f : Nat → Int32) (htab : tab.before sargs s = true) (hfr : 1 ≤ R.frames) (hlo : W + 12 ≤ R.locals) :
    Back l R p e below s sargs yN len W (fun A₁ a₁ => A₁.cells + 0 ≤ R.cells ∧ A₁.slots + 0 ≤ R.slots ∧ P x t V cd n f a₁ A₁.U) (fun A₁ _ v₁ B₁ => E n v₁ A₁.U B₁.U ∧ B₁.locs = A₁.locs ++ [] ∧ B₁.cells = A₁.cells + 0 ∧ B₁.slots = A₁.slots + 0) :=
  (law l x t V cd n f).pays htab hfr (by omega)
end Emp
end StrChars
namespace StrChars.Road
open Jvm Sem ClassFile Op Lib Jvm.Stand Jvm.Free Jvm.Free.XT
open Jvm.Lib.Cold (StaticIs)
/-- the words of String.isEmpty() -/
abbrev wordsEmp : List Jvm.Cond := [.code Emp.yN Emp.yB 1 (some .boolean), .initialized ST, .fieldLink ST 9 ST "value" "[B"]
theorem tabEmp_of {a : Array Value} {s : State} (h : ∀ w ∈ wordsEmp, w.before a s = true) : Emp.tab.before a s = true := unparts (wk h (.code Emp.yN Emp.yB 1 (some .boolean))) (wks h (.initialized Emp.yN.cls :: Emp.site))
theorem movedEmp {Z s : State} {a0 args : Array Value} (hZ : Z.Warmed39 s.vm) (hw : ∀ d ∈ wordsEmp, d.before a0 Z = true) : ∀ d ∈ wordsEmp, d.before args s = true := fun d hd => by
  have t : ∀ d ∈ wordsEmp, (d.onTables && d.keepsFace) = true := by decide +kernel
  exact RoadKit.mv hZ (hw d hd) (t d hd)
/-- the road's facts of a String, as the laws ask it -/
theorem txt_of {Z U : State} {a0 : Array Value} {kI : Nat} (wi : (Jvm.Cond.instantiable ST kI).before a0 Z = true) (al : Z.vm.Alike U.vm) {x t : Addr} {kb : ClassId} {cs : List Int32} {cd N2 : Int32} {vs : List Value} (E : RoadKit.Exa Z U.heap x ST) (V : RoadKit.Fld Z U.heap x ST "value" "[B" (.ref t)) (C : RoadKit.Fld Z U.heap x ST "coder" "B" (.int cd)) (K : RoadKit.Arv Z U.heap t kb .byte N2 vs (.int 0)) (hc : CodA cs cd N2 vs) (hb : ∀ c ∈ cs, ¬ c < 0 ∧ ¬ (65535 : Int32) < c) (l2 : cs.length ≤ 4000) :
    ∃ A, Txt x t A cd cs.length (fun j => cs.getD j 0) U := by
  obtain ⟨A, K1, K2, K3, K4, K5, K6⟩ := K
  have hcod := hc.cod (by omega) K3 K5
  obtain ⟨D, fV, fC, hB, F1, F2, g1, g2, -, -⟩ := strObj wi al E V C
  exact ⟨A, ⟨_, hB.2.2.1, D, hB.1, rfl, by cases q : D.vm <;> first | rfl | exact absurd q (hB.2.1.2 _)⟩, Has.of hB F1 g1, Has.of hB F2 g2, ⟨K1.1, State.isArrayOf_alike al K1.2.1, K1.2.2, by rcases hcod with ⟨-, q, -⟩ | ⟨-, q, -⟩ <;> omega⟩, hcod, fun j hj => by
    have e : cs.getD j 0 = cs[j] := by simp [List.getD_eq_getElem?_getD, hj]
    show ¬ cs.getD j 0 < 0 ∧ ¬ 65535 < cs.getD j 0
    rw [e]; exact hb _ (List.getElem_mem _)⟩
/-- **isEmpty() OF SUCH A STRING** -/
theorem empW {p : Program} {l : Launch} {e : Env} {R : Room} {s : State} {args : Array Value} {below : List Frame} {len W : Nat} {Z : State} {a0 : Array Value} {h : Heap} (hZ : Z.Warmed39 s.vm) (hw : ∀ d ∈ wordsEmp, d.before a0 Z = true) {kI : Nat} (wi : (Jvm.Cond.instantiable ST kI).before a0 Z = true)
    {x t : Addr} {kb : ClassId} {cs : List Int32} {cd N2 : Int32} {vs : List Value} (E : RoadKit.Exa Z h x ST) (V : RoadKit.Fld Z h x ST "value" "[B" (.ref t)) (C : RoadKit.Fld Z h x ST "coder" "B" (.int cd)) (K : RoadKit.Arv Z h t kb .byte N2 vs (.int 0)) (hc : CodA cs cd N2 vs) (hb : ∀ c ∈ cs, ¬ c < 0 ∧ ¬ (65535 : Int32) < c) (l2 : cs.length ≤ 4000) (hfr : 1 ≤ R.frames) (hlo : W + 12 ≤ R.locals) :
    Back l R p e below s args (⟨"java/lang/String", "isEmpty", "()Z"⟩ : MethodName) len W (fun P a => a = #[.ref x] ∧ P.U.heap = h ∧ P.cells + 0 ≤ R.cells ∧ P.slots + 0 ≤ R.slots)
      (fun P _ v B => ∃ L, (v = some (.int (if cs.length = 0 then 1 else 0)) ∧ L = [] ∧ B.U.heap = h) ∧ B.locs = P.locs ++ L ∧ B.cells = P.cells + 0 ∧ B.slots = P.slots + 0) := by
  intro m meth c P g ig mk a X hg hsize hdg hW hn hp'
  obtain ⟨rfl, rfl, r1, r2⟩ := hp'
  have al : Z.vm.Alike P.U.vm := hZ.alike.trans X.warmed.alike
  obtain ⟨A, hx⟩ := txt_of wi al E V C K hc hb l2
  obtain ⟨v, B, X', ⟨⟨hv, hh⟩, hl, hk, hs⟩, st⟩ := Emp.pays x t A cd cs.length (fun j => cs.getD j 0) (tabEmp_of (movedEmp hZ hw)) hfr hlo m meth c P g ig mk _ X hg hsize hdg hW hn ⟨r1, r2, rfl, hx⟩
  exact ⟨v, B, X', ⟨[], ⟨hv, rfl, hh⟩, hl, hk, hs⟩, st⟩
end StrChars.Road
namespace StrChars
open Jvm Sem ClassFile Op Lib Jvm.Stand Jvm.Free.XT Jvm.Free.ALB Jvm.Free.JM Jvm.Free
open Jvm.Lib.Cold (StaticIs)
namespace ChN
def yN : MethodName := ⟨"java/lang/String", "charAt", "(I)C"⟩
abbrev yB : ByteArray := jdk_42_method_56_code
theorem d0 : decode yB 0 = .ok (.aload_n 0, 1) := by decide +kernel
theorem d1 : decode yB 1 = .ok (.invokevirtual 492, 3) := by decide +kernel
theorem d4 : decode yB 4 = .ok (.ifCond (.eq) 12, 3) := by decide +kernel
theorem d7 : decode yB 7 = .ok (.aload_n 0, 1) := by decide +kernel
theorem d8 : decode yB 8 = .ok (.getfield 9, 3) := by decide +kernel
theorem d11 : decode yB 11 = .ok (.iload_n 1, 1) := by decide +kernel
theorem d12 : decode yB 12 = .ok (.invokestatic 495, 3) := by decide +kernel
theorem d15 : decode yB 15 = .ok (.ireturn, 1) := by decide +kernel
def site : List Cond := [.fieldLink "java/lang/String" 9 "java/lang/String" "value" "[B", IsL.tab, LChA.tab] ++ virtW "java/lang/String" 492 "java/lang/String" IsL.yN IsL.yN ++ staticW "java/lang/String" 495 LChA.yN
def tab : Cond := tabOf yN yB 2 (some .char) site
def P (x t : Addr) (V : Cell) (n : Nat) (f : Nat → Int32) (z : Int32) (fm : Value) (i : Nat) (args : Array Value) (s : State) : Prop := args = #[.ref x, .int (Int32.ofNat i)] ∧ Txt x t V 0 n f s ∧ i < n ∧ StaticIs s "java/lang/String" "COMPACT_STRINGS" "Z" (.int z) ∧ ¬ z = 0 ∧ StaticIs s "jdk/internal/util/Preconditions" "SIOOBE_FORMATTER" "Ljava/util/function/BiFunction;" fm ∧ fm.isRef = true
def E (f : Nat → Int32) (i : Nat) (r : Option Value) (s u : State) : Prop := XT.PureE (some (.int (f i))) r s u
/-- charAt(i) of a Latin-1 String of n chars, i < n: f i -/
theorem law (l : Launch) (x t : Addr) (V : Cell) (n : Nat) (f : Nat → Int32) (z : Int32) (fm : Value) (i : Nat) : Law l yN 2 1 3 40 yB 2 (some .char) site (P x t V n f z fm i) (E f i) [] 0 0 := by
  refine Law.of_walk (plainFor_of_name (by decide +kernel)) (by decide +kernel) (by decide +kernel) (by decide) (fun _ _ h => by rw [h.1]; rfl) (fun _ U U' hal hh h => ⟨h.1, h.2.1.mv hal hh, h.2.2.1, h.2.2.2.1.there hal hh, h.2.2.2.2.1, h.2.2.2.2.2.1.there hal hh, h.2.2.2.2.2.2⟩) (fun r U U' V V' h1 hal h2 h => XT.PureE.mv r U U' V V' h1 hal h2 h) ?_
  intro p e s m args below meth c s₁ X0 hexec hbytes hml hret hlk hnm hown hh0 W hP
  obtain ⟨rfl, hx, hi, s1, hz, s3, rf⟩ := hP
  have v31 := hx.2.2.2.1.2.2.2
  have hr := hx.2.2.2.2.2 i hi
  have hx0 := hx.mv X0.warmed.alike hh0
  have c1 : Steps p.tables e below (s₁.setTop (entryFrame m #[.ref x, .int (Int32.ofNat i)] 2)) (s₁.setTop (mkF m 1 #[.val (.ref x), .val (.int (Int32.ofNat i))] [.ref x])) := Steps.trans (entry rfl) (by
    show Steps p.tables e below (s₁.setTop (mkF m 0 #[.val (.ref x), .val (.int (Int32.ofNat i))] [])) _
    refine XS.aloadN X0.here hexec rfl (hb hbytes d0) rfl rfl ?_
    exact Steps.refl _)
  obtain ⟨v2, T2, X2, E2, g2⟩ := X0.callV hexec (IsL.law l x 0 z) hown (wks W (virtW "java/lang/String" 492 "java/lang/String" IsL.yN IsL.yN)) rfl (by decide) (wk W IsL.tab) (W := 0) (Nat.le_of_ble_eq_true rfl) (Nat.le_of_ble_eq_true rfl) (Nat.le_refl _) (Nat.le_refl _) (hx0.1.fc X0.warmed.alike) hx0.1.is (g := (mkF m 1 #[.val (.ref x), .val (.int (Int32.ofNat i))] [.ref x])) rfl (by rw [hml]; rfl) c1 (argsL := []) (rest := []) rfl rfl (by show 2 * 0 + 0 ≤ _; decide) (hb hbytes d1) (⟨rfl, hx0.2.2.1, hx.2.2.2.2.1.cd, s1.there X0.warmed.alike hh0, hz⟩)
  obtain ⟨rfl, q2⟩ := E2
  have hh2 := q2.trans hh0
  have hx2 := hx.mv X2.warmed.alike hh2
  obtain ⟨-, k1, k2⟩ | ⟨k0, -⟩ := hx.2.2.2.2.1
  · have c3 : Steps p.tables e below (s₁.setTop (entryFrame m #[.ref x, .int (Int32.ofNat i)] 2)) (T2.setTop (mkF m 8 #[.val (.ref x), .val (.int (Int32.ofNat i))] [.ref x])) := Steps.trans g2 (by
      refine XS.ifNo X2.here hexec rfl (hb hbytes d4) rfl (i0_eq_f (by decide)) ?_
      refine XS.aloadN X2.here hexec rfl (hb hbytes d7) rfl rfl ?_
      exact Steps.refl _)
    obtain ⟨T4, X4, q4, st4⟩ := X2.hget hexec hown (wk W (.fieldLink "java/lang/String" 9 "java/lang/String" "value" "[B")) hx2.2.1 (g := (mkF m 8 #[.val (.ref x), .val (.int (Int32.ofNat i))] [.ref x])) rfl (rest := []) rfl (hb hbytes d8)
    have hh4 := q4.trans hh2
    have c5 : Steps p.tables e below (s₁.setTop (entryFrame m #[.ref x, .int (Int32.ofNat i)] 2)) (T4.setTop (mkF m 12 #[.val (.ref x), .val (.int (Int32.ofNat i))] [.int (Int32.ofNat i), .ref t])) := (c3.trans (st4 _ (Steps.refl _))).trans (by
      refine XS.iloadN X4.here hexec rfl (hb hbytes d11) rfl ?_
      exact Steps.refl _)
    obtain ⟨v6, T6, X6, E6, g6⟩ := X4.callS hexec (LChA.law l t V i (lo8 (f i)) fm) hown (wks W (staticW "java/lang/String" 495 LChA.yN)) (wk W LChA.tab) (W := 0) (Nat.le_of_ble_eq_true rfl) (Nat.le_of_ble_eq_true rfl) (Nat.le_refl _) (Nat.le_refl _) (g := (mkF m 12 #[.val (.ref x), .val (.int (Int32.ofNat i))] [.int (Int32.ofNat i), .ref t])) rfl (by rw [hml]; rfl) c5 (argsL := [.ref t, .int (Int32.ofNat i)]) (rest := []) rfl rfl (by show 2 * 0 + 0 ≤ _; decide) (hb hbytes d12) (⟨rfl, hx.2.2.2.1.mv X4.warmed.alike hh4, (k2 i hi).1, s3.there X4.warmed.alike hh4, rf⟩)
    obtain ⟨rfl, q6⟩ := E6
    rw [chr8_lo8 hr.1 (k2 i hi).2] at g6
    exact ⟨T6, some (.int (f i)), _, _, _, X6, rfl, rfl, rfl, (fun h => by cases h), ⟨rfl, q6.trans hh4⟩, fun fs hl => Steps.trans g6 (X6.ireturnOut hexec hret (narrow_ch hr.1 hr.2) (Or.inr (Or.inr (Or.inr (Or.inl rfl)))) (hb hbytes d15) hl)⟩
  · exact absurd k0 (by decide)
theorem pays {l : Launch} {R : Room} {p : Program} {e : Env} {below : List Frame} {s : State} {sargs : Array Value} {len W : Nat} (x t : Addr) (V : Cell) (n : Nat) (f : Nat → Int32) (z : Int32) (fm : Value) (i : Nat) (htab : tab.before sargs s = true) (hfr : 4 ≤ R.frames) (hlo : W + 53 ≤ R.locals) :
    Back l R p e below s sargs yN len W (fun A₁ a₁ => A₁.cells + 0 ≤ R.cells ∧ A₁.slots + 0 ≤ R.slots ∧ P x t V n f z fm i a₁ A₁.U) (fun A₁ _ v₁ B₁ => E f i v₁ A₁.U B₁.U ∧ B₁.locs = A₁.locs ++ [] ∧ B₁.cells = A₁.cells + 0 ∧ B₁.slots = A₁.slots + 0) :=
  (law l x t V n f z fm i).pays htab hfr (by omega)
end ChN
end StrChars
namespace StrChars.Road
open Jvm Sem ClassFile Op Lib Jvm.Stand Jvm.Free Jvm.Free.XT
open Jvm.Lib.Cold (StaticIs)
/-- the words of String.charAt(int), the Latin-1 road alone -/
abbrev wordsChN : List Jvm.Cond := [.code ChN.yN ChN.yB 2 (some .char), .initialized ST, .fieldLink ST 9 ST "value" "[B", .fieldLink ST 38 ST "COMPACT_STRINGS" "Z", .fieldLink ST 15 ST "coder" "B", .code IsL.yN IsL.yB 1 (some .boolean), .methodLink ST 492 IsL.yN, .declares IsL.yN, .selects ST IsL.yN IsL.yN, .instanceMethod IsL.yN,
  .methodLink ST 495 LChA.yN, .static LChA.yN, .code LChA.yN LChA.yB 2 (some .char), .initialized "java/lang/StringLatin1", .methodLink "java/lang/StringLatin1" 9 JO.Str_checkIndex.yN, .static JO.Str_checkIndex.yN, .code JO.Str_checkIndex.yN JO.Str_checkIndex.yB 2 none,
  .fieldLink ST 1053 "jdk/internal/util/Preconditions" "SIOOBE_FORMATTER" "Ljava/util/function/BiFunction;", .methodLink ST 1059 JC.PreCheck.yN, .static JC.PreCheck.yN, .code JC.PreCheck.yN JC.PreCheck.yB 3 (some .int), .initialized "jdk/internal/util/Preconditions"]
theorem tabChN_of {a : Array Value} {s : State} (h : ∀ w ∈ wordsChN, w.before a s = true) : ChN.tab.before a s = true := by
  have hp : JC.PreCheck.tab.before a s = true := unparts (wk h (.code JC.PreCheck.yN JC.PreCheck.yB 3 (some .int))) (wks h (.initialized JC.PreCheck.yN.cls :: JC.PreCheck.site))
  have qk := consq hp h
  have hk : JO.Str_checkIndex.tab.before a s = true := unparts (wk qk (.code JO.Str_checkIndex.yN JO.Str_checkIndex.yB 2 none)) (wks qk (.initialized JO.Str_checkIndex.yN.cls :: JO.Str_checkIndex.site))
  have ql := consq hk h
  have hl : LChA.tab.before a s = true := unparts (wk ql (.code LChA.yN LChA.yB 2 (some .char))) (wks ql (.initialized LChA.yN.cls :: LChA.site))
  have hi : IsL.tab.before a s = true := unparts (wk h (.code IsL.yN IsL.yB 1 (some .boolean))) (wks h (.initialized IsL.yN.cls :: IsL.site))
  have q := consq hi (consq hl h)
  exact unparts (wk q (.code ChN.yN ChN.yB 2 (some .char))) (wks q (.initialized ChN.yN.cls :: ChN.site))
theorem movedChN {Z s : State} {a0 args : Array Value} (hZ : Z.Warmed39 s.vm) (hw : ∀ d ∈ wordsChN, d.before a0 Z = true) : ∀ d ∈ wordsChN, d.before args s = true := fun d hd => by
  have t : ∀ d ∈ wordsChN, (d.onTables && d.keepsFace) = true := by decide +kernel
  exact RoadKit.mv hZ (hw d hd) (t d hd)
/-- **charAt(i) OF A LATIN-1 STRING**, i < n: the char -/
theorem chN {p : Program} {l : Launch} {e : Env} {R : Room} {s : State} {args : Array Value} {below : List Frame} {len W : Nat} {Z : State} {a0 : Array Value} {h : Heap} (hZ : Z.Warmed39 s.vm) (hw : ∀ d ∈ wordsChN, d.before a0 Z = true) {kI : Nat} (wi : (Jvm.Cond.instantiable ST kI).before a0 Z = true)
    {x t : Addr} {kb : ClassId} {cs : List Int32} {N2 z : Int32} {vs : List Value} {fm : Value} {i : Nat} {j : Int32} (E : RoadKit.Exa Z h x ST) (V : RoadKit.Fld Z h x ST "value" "[B" (.ref t)) (C : RoadKit.Fld Z h x ST "coder" "B" (.int 0)) (K : RoadKit.Arv Z h t kb .byte N2 vs (.int 0)) (hc : CodA cs 0 N2 vs) (hb : ∀ c ∈ cs, ¬ c < 0 ∧ ¬ (65535 : Int32) < c)
    (S : RoadKit.Sta Z h ST "COMPACT_STRINGS" "Z" (.int z)) (hz : ¬ z = 0) (F : RoadKit.Sta Z h "jdk/internal/util/Preconditions" "SIOOBE_FORMATTER" "Ljava/util/function/BiFunction;" fm) (rf : fm.isRef = true) (l2 : cs.length ≤ 4000) (hi : i < cs.length) (hj : j = Int32.ofNat i) (hfr : 4 ≤ R.frames) (hlo : W + 53 ≤ R.locals) :
    Back l R p e below s args (⟨"java/lang/String", "charAt", "(I)C"⟩ : MethodName) len W (fun P a => a = #[.ref x, .int j] ∧ P.U.heap = h ∧ P.cells + 0 ≤ R.cells ∧ P.slots + 0 ≤ R.slots)
      (fun P _ v B => ∃ L, (v = some (.int (cs.getD i 0)) ∧ L = [] ∧ B.U.heap = h) ∧ B.locs = P.locs ++ L ∧ B.cells = P.cells + 0 ∧ B.slots = P.slots + 0) := by
  subst hj
  intro m meth c P g ig mk a X hg hsize hdg hW hn hp'
  obtain ⟨rfl, rfl, r1, r2⟩ := hp'
  have al : Z.vm.Alike P.U.vm := hZ.alike.trans X.warmed.alike
  obtain ⟨A, hx⟩ := txt_of wi al E V C K hc hb l2
  obtain ⟨v, B, X', ⟨⟨hv, hh⟩, hl, hk, hs⟩, st⟩ := ChN.pays x t A cs.length (fun j => cs.getD j 0) z fm i (tabChN_of (movedChN hZ hw)) hfr hlo m meth c P g ig mk _ X hg hsize hdg hW hn ⟨r1, r2, rfl, hx, hi, sta_is al S, hz, sta_is al F, rf⟩
  exact ⟨v, B, X', ⟨[], ⟨hv, rfl, hh⟩, hl, hk, hs⟩, st⟩
/-- what backV says of its String, as the contracts of this text ask it: cs's low bytes, coder 0 -/
theorem codOf {cs : List Int32} {n : Nat} (hn : cs.length = n) (hb : ∀ c ∈ cs, ¬ 255 < c) : CodA cs 0 (Int32.ofNat n) ((cs.map lo8).map Value.int) := Or.inl ⟨rfl, by rw [hn], by simp [List.map_map, Function.comp_def], hb⟩
end StrChars.Road
end Jvm.Pilot.@@N@@
namespace Jvm.Pilot.@@N@@
open Jvm Jvm.ClassFile Sem Op Lib Jvm.Free Jvm.Stand Jvm.LawKit Jvm.RoadKit Bundle Jvm.Pilot.@@N@@.Jvm.D
theorem own_sta_keep {Z : State} {h h' : Heap} {C n d : String} {v : Value} (F : Sta Z h C n d v) (K : Keep h h' []) : Sta Z h' C n d v := by
  obtain ⟨cf, i, k, f, st, cell, h1, h2, h3, h4, h5, r⟩ := F
  exact ⟨cf, i, k, f, st, cell, h1, h2, h3, h4, K.2.1 _ _ h5 nin0, r⟩
theorem own_sta_keepE {Z : State} {h h' : Heap} {C n d : String} {v : Value} {ws : List Addr} (F : Sta Z h C n d v) (K : Keep h h' ws) (q : ∀ x ∈ ws, ∃ D, Exa Z h x D) : Sta Z h' C n d v := by
  obtain ⟨cf, i, k, f, st, cell, h1, h2, h3, h4, h5, h6, r⟩ := F
  refine ⟨cf, i, k, f, st, cell, h1, h2, h3, h4, K.2.1 _ _ h5 (fun z => ?_), h6, r⟩
  obtain ⟨D, cell', k', g1, -, -, g4, -⟩ := q _ z
  cases h5.symm.trans g1
  rw [h6] at g4; cases g4
theorem own_up (cs : List Int32) (h : ∀ c ∈ cs, ¬ c < 0 ∧ ¬ (255 : Int32) < c) : ∀ c ∈ cs, ¬ c < 0 ∧ ¬ (65535 : Int32) < c := fun c hc => ⟨(h c hc).1, fun q => (h c hc).2 (by rw [Int32.lt_iff_toInt_lt] at q ⊢; have e1 : (65535 : Int32).toInt = 65535 := rfl; have e2 : (255 : Int32).toInt = 255 := rfl; omega)⟩
theorem own_nat32 {i : Nat} (h : i < 2 ^ 31) : (Int32.ofNat i).toNatClampNeg = i := by
  show (Int32.ofNat i).toInt.toNat = i
  rw [Int32.toInt_ofNat_small h]; rfl
theorem own_lt32 {i j : Nat} (hi : i < 2 ^ 31) (hj : j < 2 ^ 31) : (Int32.ofNat i) < (Int32.ofNat j) ↔ i < j := by
  rw [Int32.lt_iff_toInt_lt, Int32.toInt_ofNat_small hi, Int32.toInt_ofNat_small hj]; omega
theorem own_eq32 {i j : Nat} (hi : i < 2 ^ 31) (hj : j < 2 ^ 31) : (Int32.ofNat i) = (Int32.ofNat j) ↔ i = j := by
  rw [← Int32.toInt_inj, Int32.toInt_ofNat_small hi, Int32.toInt_ofNat_small hj]; omega
theorem own_six {nn : Nat} (h1 : 1 ≤ nn) (h6 : nn ≤ 6) (a1 : ¬ Int32.ofNat nn = (1 : Int32)) (a2 : ¬ Int32.ofNat nn = (2 : Int32)) (a3 : ¬ Int32.ofNat nn = (3 : Int32)) (a4 : ¬ Int32.ofNat nn = (4 : Int32)) (a5 : ¬ Int32.ofNat nn = (5 : Int32)) : nn = 6 := by
  have b1 : ¬ nn = 1 := fun q => a1 (by rw [q]; rfl)
  have b2 : ¬ nn = 2 := fun q => a2 (by rw [q]; rfl)
  have b3 : ¬ nn = 3 := fun q => a3 (by rw [q]; rfl)
  have b4 : ¬ nn = 4 := fun q => a4 (by rw [q]; rfl)
  have b5 : ¬ nn = 5 := fun q => a5 (by rw [q]; rfl)
  omega
theorem own_one {i : Nat} : (Int32.ofNat i) + (1 : Int32) = Int32.ofNat (i + 1) := by rw [Int32.ofNat_add]; rfl
theorem d1_0 : decode method_2_code 0 = .ok (.lload_n 0, 1) := by decide +kernel
theorem d1_1 : decode method_2_code 1 = .ok (.bipush 6, 2) := by decide +kernel
theorem d1_3 : decode method_2_code 3 = .ok (.iload_n 2, 1) := by decide +kernel
theorem d1_4 : decode method_2_code 4 = .ok (.imul, 1) := by decide +kernel
theorem d1_5 : decode method_2_code 5 = .ok (.lushr, 1) := by decide +kernel
theorem d1_6 : decode method_2_code 6 = .ok (.ldc2_w 7, 3) := by decide +kernel
theorem d1_9 : decode method_2_code 9 = .ok (.land, 1) := by decide +kernel
theorem d1_10 : decode method_2_code 10 = .ok (.l2i, 1) := by decide +kernel
theorem d1_11 : decode method_2_code 11 = .ok (.bipush 36, 2) := by decide +kernel
theorem d1_13 : decode method_2_code 13 = .ok (.irem, 1) := by decide +kernel
theorem d1_14 : decode method_2_code 14 = .ok (.istore_n 3, 1) := by decide +kernel
theorem d1_15 : decode method_2_code 15 = .ok (.iload_n 3, 1) := by decide +kernel
theorem d1_16 : decode method_2_code 16 = .ok (.bipush 26, 2) := by decide +kernel
theorem d1_18 : decode method_2_code 18 = .ok (.if_icmp .ge 11, 3) := by decide +kernel
theorem d1_21 : decode method_2_code 21 = .ok (.bipush 65, 2) := by decide +kernel
theorem d1_23 : decode method_2_code 23 = .ok (.iload_n 3, 1) := by decide +kernel
theorem d1_24 : decode method_2_code 24 = .ok (.iadd, 1) := by decide +kernel
theorem d1_25 : decode method_2_code 25 = .ok (.i2c, 1) := by decide +kernel
theorem d1_26 : decode method_2_code 26 = .ok (.goto 11, 3) := by decide +kernel
theorem d1_37 : decode method_2_code 37 = .ok (.ireturn, 1) := by decide +kernel
theorem d1_29 : decode method_2_code 29 = .ok (.bipush 48, 2) := by decide +kernel
theorem d1_31 : decode method_2_code 31 = .ok (.iload_n 3, 1) := by decide +kernel
theorem d1_32 : decode method_2_code 32 = .ok (.bipush 26, 2) := by decide +kernel
theorem d1_34 : decode method_2_code 34 = .ok (.isub, 1) := by decide +kernel
theorem d1_35 : decode method_2_code 35 = .ok (.iadd, 1) := by decide +kernel
theorem d1_36 : decode method_2_code 36 = .ok (.i2c, 1) := by decide +kernel
theorem pn_26 : plainName "com/example/packet_radio_link/packetradiolink/frame/AddressEqualsPinLaw" = true := by first | (simp [plainName, overriddenIn]; done) | decide +kernel
theorem ef_rm1 (m : MethodId) (x0 : Int64) (x1 : Int32) : entryFrame m #[(.long x0), (.int x1)] 4 = mkF m 0 #[.val (.long x0), .second, .val (.int x1), .unset] [] := by first | (simp [entryFrame, mkF, argsToLocals, Value.category]; done) | rfl
def own_ch (vb_ : Int64) (vi : Int32) : Int32 := (if (((((vb_.toUInt64 >>> (((6 : Int32) * vi) &&& 0x3f).toInt64.toUInt64).toInt64) &&& (63 : Int64)).toInt32) % (36 : Int32)) < (26 : Int32) then (nar .char (((65 : Int32) + (((((vb_.toUInt64 >>> (((6 : Int32) * vi) &&& 0x3f).toInt64.toUInt64).toInt64) &&& (63 : Int64)).toInt32) % (36 : Int32))).toUInt32.toUInt16.toUInt32.toInt32)) else (nar .char (((48 : Int32) + ((((((vb_.toUInt64 >>> (((6 : Int32) * vi) &&& 0x3f).toInt64.toUInt64).toInt64) &&& (63 : Int64)).toInt32) % (36 : Int32)) - (26 : Int32))).toUInt32.toUInt16.toUInt32.toInt32)))
def Q1 (Z : State) (vb_ : Int64) (vi : Int32) (h0 : Heap) (n0 : Nat) (v : Option Value) (h : Heap) (L : List Loc) : Prop := v = some (.int (own_ch vb_ vi)) ∧ Fr n0 L ∧ h = h0
set_option maxRecDepth 65536 in
set_option maxHeartbeats 40000000 in
theorem rm1 (l : Launch) (Z : State) (a0 : Array Value) (hw : ∀ d ∈ tables_1, d.before a0 Z = true) (ws : List Jvm.Cond) (vb_ : Int64) (vi : Int32) (h0 : Heap) (n0 : Nat) (Z0 : n0 ≤ h0.size) :
    MetFree l (⟨"com/example/packet_radio_link/packetradiolink/frame/AddressEqualsPinLaw", "ch", "(JI)C"⟩ : MethodName) (head1 (Jvm.Cond.code (⟨"com/example/packet_radio_link/packetradiolink/frame/AddressEqualsPinLaw", "ch", "(JI)C"⟩ : MethodName) method_2_code 4 (some .char) :: ws) ({ frames := 0, cells := 0, slots := 0, locals := 0 } : Room)) (fun a U => a = #[(.long vb_), (.int vi)] ∧ Z.Warmed39 U.vm ∧ U.heap = h0) (fun _ _ _ _ _ => True) (fun _ U o U' => ∃ v L, o = .returned v ∧ Q1 Z vb_ vi h0 n0 v U'.heap L ∧ FrameEnd U o U' L ({ frames := 0, cells := 0, slots := 0, locals := 0 } : Room).cells ({ frames := 0, cells := 0, slots := 0, locals := 0 } : Room).slots) := by
  refine MetFree.of_bodySF (plainFor_of_name pn_26) hisR ?_
  intro p e s m args below meth c s₁ Bd hml0 hP hK
  obtain ⟨rfl, hZ, hh⟩ := hP
  have hx := Bd.exec
  have hby := Bd.bytes
  have hml : c.maxLocals = 4 := hml0
  have hown : s.vm.findClass "com/example/packet_radio_link/packetradiolink/frame/AddressEqualsPinLaw" = some m.cls := findClass_of_methodNamed Bd.named
  have hnm := (name_of_methodNamed Bd.named Bd.method).1
  have X0 : Stand p l e ({ frames := 0, cells := 0, slots := 0, locals := 0 } : Room) s m #[(.long vb_), (.int vi)] below meth c s₁ [] 0 0 := Stand.of_body Bd
  have e0 : s₁.heap = h0 := by rw [← hh, Bd.state]; rfl
  have N0 := Fr.nil n0
  have pre0 : ∀ t, Steps p.tables e below (s₁.setTop (mkF m 0 #[.val (.long vb_), .second, .val (.int vi), .unset] [])) t → Steps p.tables e below (s₁.setTop (entryFrame m #[(.long vb_), (.int vi)] 4)) t := fun t k => castTop (ef_rm1 m vb_ vi) k
  have pre1 : ∀ t, Steps p.tables e below (s₁.setTop (mkF m 18 #[.val (.long vb_), .second, .val (.int vi), .val (.int (((((vb_.toUInt64 >>> (((6 : Int32) * vi) &&& 0x3f).toInt64.toUInt64).toInt64) &&& (63 : Int64)).toInt32) % (36 : Int32)))] [(.int (26 : Int32)), (.int (((((vb_.toUInt64 >>> (((6 : Int32) * vi) &&& 0x3f).toInt64.toUInt64).toInt64) &&& (63 : Int64)).toInt32) % (36 : Int32)))])) t → Steps p.tables e below (s₁.setTop (entryFrame m #[(.long vb_), (.int vi)] 4)) t := by
    intro t kt
    refine pre0 t ?_
    show Steps p.tables e below (s₁.setTop (mkF m 0 #[.val (.long vb_), .second, .val (.int vi), .unset] [])) _
    refine XS.lloadN X0.here hx rfl (hb hby d1_0) rfl ?_
    show Steps p.tables e below (s₁.setTop (mkF m 1 #[.val (.long vb_), .second, .val (.int vi), .unset] [(.long vb_)])) _
    refine XS.bipush X0.here hx rfl (hb hby d1_1) ?_
    show Steps p.tables e below (s₁.setTop (mkF m 3 #[.val (.long vb_), .second, .val (.int vi), .unset] [(.int (6 : Int32)), (.long vb_)])) _
    refine XS.iloadN X0.here hx rfl (hb hby d1_3) rfl ?_
    show Steps p.tables e below (s₁.setTop (mkF m 4 #[.val (.long vb_), .second, .val (.int vi), .unset] [(.int vi), (.int (6 : Int32)), (.long vb_)])) _
    refine XS.imul X0.here hx rfl (hb hby d1_4) rfl ?_
    show Steps p.tables e below (s₁.setTop (mkF m 5 #[.val (.long vb_), .second, .val (.int vi), .unset] [(.int ((6 : Int32) * vi)), (.long vb_)])) _
    refine XS.lushr X0.here hx rfl (hb hby d1_5) rfl ?_
    show Steps p.tables e below (s₁.setTop (mkF m 6 #[.val (.long vb_), .second, .val (.int vi), .unset] [(.long ((vb_.toUInt64 >>> (((6 : Int32) * vi) &&& 0x3f).toInt64.toUInt64).toInt64))])) _
    refine X0.ldc2J hx hown (mvT hZ (hw _ (List.mem_of_getElem? (i := 4) rfl))) (g := (mkF m 6 #[.val (.long vb_), .second, .val (.int vi), .unset] [(.long ((vb_.toUInt64 >>> (((6 : Int32) * vi) &&& 0x3f).toInt64.toUInt64).toInt64))])) rfl (hb hby d1_6) ?_
    show Steps p.tables e below (s₁.setTop (mkF m 9 #[.val (.long vb_), .second, .val (.int vi), .unset] [(.long (63 : Int64)), (.long ((vb_.toUInt64 >>> (((6 : Int32) * vi) &&& 0x3f).toInt64.toUInt64).toInt64))])) _
    refine XS.land X0.here hx rfl (hb hby d1_9) rfl ?_
    show Steps p.tables e below (s₁.setTop (mkF m 10 #[.val (.long vb_), .second, .val (.int vi), .unset] [(.long (((vb_.toUInt64 >>> (((6 : Int32) * vi) &&& 0x3f).toInt64.toUInt64).toInt64) &&& (63 : Int64)))])) _
    refine XS.l2i X0.here hx rfl (hb hby d1_10) rfl ?_
    show Steps p.tables e below (s₁.setTop (mkF m 11 #[.val (.long vb_), .second, .val (.int vi), .unset] [(.int ((((vb_.toUInt64 >>> (((6 : Int32) * vi) &&& 0x3f).toInt64.toUInt64).toInt64) &&& (63 : Int64)).toInt32))])) _
    refine XS.bipush X0.here hx rfl (hb hby d1_11) ?_
    show Steps p.tables e below (s₁.setTop (mkF m 13 #[.val (.long vb_), .second, .val (.int vi), .unset] [(.int (36 : Int32)), (.int ((((vb_.toUInt64 >>> (((6 : Int32) * vi) &&& 0x3f).toInt64.toUInt64).toInt64) &&& (63 : Int64)).toInt32))])) _
    refine iremM X0 hx rfl (hb hby d1_13) rfl (by decide) ?_
    show Steps p.tables e below (s₁.setTop (mkF m 14 #[.val (.long vb_), .second, .val (.int vi), .unset] [(.int (((((vb_.toUInt64 >>> (((6 : Int32) * vi) &&& 0x3f).toInt64.toUInt64).toInt64) &&& (63 : Int64)).toInt32) % (36 : Int32)))])) _
    refine XS.istoreN X0.here hx rfl (hb hby d1_14) rfl (l' := #[.val (.long vb_), .second, .val (.int vi), .val (.int (((((vb_.toUInt64 >>> (((6 : Int32) * vi) &&& 0x3f).toInt64.toUInt64).toInt64) &&& (63 : Int64)).toInt32) % (36 : Int32)))]) rfl ?_
    show Steps p.tables e below (s₁.setTop (mkF m 15 #[.val (.long vb_), .second, .val (.int vi), .val (.int (((((vb_.toUInt64 >>> (((6 : Int32) * vi) &&& 0x3f).toInt64.toUInt64).toInt64) &&& (63 : Int64)).toInt32) % (36 : Int32)))] [])) _
    refine XS.iloadN X0.here hx rfl (hb hby d1_15) rfl ?_
    show Steps p.tables e below (s₁.setTop (mkF m 16 #[.val (.long vb_), .second, .val (.int vi), .val (.int (((((vb_.toUInt64 >>> (((6 : Int32) * vi) &&& 0x3f).toInt64.toUInt64).toInt64) &&& (63 : Int64)).toInt32) % (36 : Int32)))] [(.int (((((vb_.toUInt64 >>> (((6 : Int32) * vi) &&& 0x3f).toInt64.toUInt64).toInt64) &&& (63 : Int64)).toInt32) % (36 : Int32)))])) _
    refine XS.bipush X0.here hx rfl (hb hby d1_16) ?_
    exact kt
  by_cases hc2 : (((((vb_.toUInt64 >>> (((6 : Int32) * vi) &&& 0x3f).toInt64.toUInt64).toInt64) &&& (63 : Int64)).toInt32) % (36 : Int32)) < (26 : Int32)
  ·
    obtain ⟨fs, hr, hrun, hended, hW, hsame⟩ := X0.leave (v := some (.int (nar .char (((65 : Int32) + (((((vb_.toUInt64 >>> (((6 : Int32) * vi) &&& 0x3f).toInt64.toUInt64).toInt64) &&& (63 : Int64)).toInt32) % (36 : Int32))).toUInt32.toUInt16.toUInt32.toInt32)))) (fun h => by rw [Bd.returns] at h; cases h) (hlocks := BodyLoose.notSynchronized Bd)
    refine ⟨_, _, pre1 _ ?_, hrun, hended, _, _, rfl, ?_, ⟨_, rfl⟩, hW, hsame.mono (by decide) (by decide)⟩
    ·
      show Steps p.tables e below (s₁.setTop (mkF m 18 #[.val (.long vb_), .second, .val (.int vi), .val (.int (((((vb_.toUInt64 >>> (((6 : Int32) * vi) &&& 0x3f).toInt64.toUInt64).toInt64) &&& (63 : Int64)).toInt32) % (36 : Int32)))] [(.int (26 : Int32)), (.int (((((vb_.toUInt64 >>> (((6 : Int32) * vi) &&& 0x3f).toInt64.toUInt64).toInt64) &&& (63 : Int64)).toInt32) % (36 : Int32)))])) _
      refine XS.icmpNo X0.here hx rfl (hb hby d1_18) rfl (tlt (hc2 : (((((vb_.toUInt64 >>> (((6 : Int32) * vi) &&& 0x3f).toInt64.toUInt64).toInt64) &&& (63 : Int64)).toInt32) % (36 : Int32)) < (26 : Int32))).2.1 ?_
      show Steps p.tables e below (s₁.setTop (mkF m 21 #[.val (.long vb_), .second, .val (.int vi), .val (.int (((((vb_.toUInt64 >>> (((6 : Int32) * vi) &&& 0x3f).toInt64.toUInt64).toInt64) &&& (63 : Int64)).toInt32) % (36 : Int32)))] [])) _
      refine XS.bipush X0.here hx rfl (hb hby d1_21) ?_
      show Steps p.tables e below (s₁.setTop (mkF m 23 #[.val (.long vb_), .second, .val (.int vi), .val (.int (((((vb_.toUInt64 >>> (((6 : Int32) * vi) &&& 0x3f).toInt64.toUInt64).toInt64) &&& (63 : Int64)).toInt32) % (36 : Int32)))] [(.int (65 : Int32))])) _
      refine XS.iloadN X0.here hx rfl (hb hby d1_23) rfl ?_
      show Steps p.tables e below (s₁.setTop (mkF m 24 #[.val (.long vb_), .second, .val (.int vi), .val (.int (((((vb_.toUInt64 >>> (((6 : Int32) * vi) &&& 0x3f).toInt64.toUInt64).toInt64) &&& (63 : Int64)).toInt32) % (36 : Int32)))] [(.int (((((vb_.toUInt64 >>> (((6 : Int32) * vi) &&& 0x3f).toInt64.toUInt64).toInt64) &&& (63 : Int64)).toInt32) % (36 : Int32))), (.int (65 : Int32))])) _
      refine XS.iadd X0.here hx rfl (hb hby d1_24) rfl ?_
      show Steps p.tables e below (s₁.setTop (mkF m 25 #[.val (.long vb_), .second, .val (.int vi), .val (.int (((((vb_.toUInt64 >>> (((6 : Int32) * vi) &&& 0x3f).toInt64.toUInt64).toInt64) &&& (63 : Int64)).toInt32) % (36 : Int32)))] [(.int ((65 : Int32) + (((((vb_.toUInt64 >>> (((6 : Int32) * vi) &&& 0x3f).toInt64.toUInt64).toInt64) &&& (63 : Int64)).toInt32) % (36 : Int32))))])) _
      refine XS.i2c X0.here hx rfl (hb hby d1_25) rfl ?_
      show Steps p.tables e below (s₁.setTop (mkF m 26 #[.val (.long vb_), .second, .val (.int vi), .val (.int (((((vb_.toUInt64 >>> (((6 : Int32) * vi) &&& 0x3f).toInt64.toUInt64).toInt64) &&& (63 : Int64)).toInt32) % (36 : Int32)))] [(.int (((65 : Int32) + (((((vb_.toUInt64 >>> (((6 : Int32) * vi) &&& 0x3f).toInt64.toUInt64).toInt64) &&& (63 : Int64)).toInt32) % (36 : Int32))).toUInt32.toUInt16.toUInt32.toInt32))])) _
      refine XS.goto X0.here hx rfl (pc0 := 26) (pc' := 37) rfl (hb hby d1_26) (by decide) (by decide) ?_
      show Steps p.tables e below (s₁.setTop (mkF m 37 #[.val (.long vb_), .second, .val (.int vi), .val (.int (((((vb_.toUInt64 >>> (((6 : Int32) * vi) &&& 0x3f).toInt64.toUInt64).toInt64) &&& (63 : Int64)).toInt32) % (36 : Int32)))] [(.int (((65 : Int32) + (((((vb_.toUInt64 >>> (((6 : Int32) * vi) &&& 0x3f).toInt64.toUInt64).toInt64) &&& (63 : Int64)).toInt32) % (36 : Int32))).toUInt32.toUInt16.toUInt32.toInt32))])) _
      exact retN X0 hx (t := .char) Bd.returns (by simp) (hb hby d1_37) hr
    ·
      show Q1 Z vb_ vi h0 n0 _ s₁.heap _
      rw [e0]
      have hv : nar .char (((65 : Int32) + (((((vb_.toUInt64 >>> (((6 : Int32) * vi) &&& 0x3f).toInt64.toUInt64).toInt64) &&& (63 : Int64)).toInt32) % (36 : Int32))).toUInt32.toUInt16.toUInt32.toInt32) = (own_ch vb_ vi) := by rw [own_ch, if_pos hc2]
      exact ⟨(congrArg (fun z => some (Value.int z)) hv), N0, rfl⟩
  ·
    obtain ⟨fs, hr, hrun, hended, hW, hsame⟩ := X0.leave (v := some (.int (nar .char (((48 : Int32) + ((((((vb_.toUInt64 >>> (((6 : Int32) * vi) &&& 0x3f).toInt64.toUInt64).toInt64) &&& (63 : Int64)).toInt32) % (36 : Int32)) - (26 : Int32))).toUInt32.toUInt16.toUInt32.toInt32)))) (fun h => by rw [Bd.returns] at h; cases h) (hlocks := BodyLoose.notSynchronized Bd)
    refine ⟨_, _, pre1 _ ?_, hrun, hended, _, _, rfl, ?_, ⟨_, rfl⟩, hW, hsame.mono (by decide) (by decide)⟩
    ·
      show Steps p.tables e below (s₁.setTop (mkF m 18 #[.val (.long vb_), .second, .val (.int vi), .val (.int (((((vb_.toUInt64 >>> (((6 : Int32) * vi) &&& 0x3f).toInt64.toUInt64).toInt64) &&& (63 : Int64)).toInt32) % (36 : Int32)))] [(.int (26 : Int32)), (.int (((((vb_.toUInt64 >>> (((6 : Int32) * vi) &&& 0x3f).toInt64.toUInt64).toInt64) &&& (63 : Int64)).toInt32) % (36 : Int32)))])) _
      refine XS.icmpYes X0.here hx rfl (pc0 := 18) (pc' := 29) rfl (hb hby d1_18) rfl (flt (hc2 : ¬ ((((((vb_.toUInt64 >>> (((6 : Int32) * vi) &&& 0x3f).toInt64.toUInt64).toInt64) &&& (63 : Int64)).toInt32) % (36 : Int32)) < (26 : Int32)))).2.1 (by decide) (by decide) ?_
      show Steps p.tables e below (s₁.setTop (mkF m 29 #[.val (.long vb_), .second, .val (.int vi), .val (.int (((((vb_.toUInt64 >>> (((6 : Int32) * vi) &&& 0x3f).toInt64.toUInt64).toInt64) &&& (63 : Int64)).toInt32) % (36 : Int32)))] [])) _
      refine XS.bipush X0.here hx rfl (hb hby d1_29) ?_
      show Steps p.tables e below (s₁.setTop (mkF m 31 #[.val (.long vb_), .second, .val (.int vi), .val (.int (((((vb_.toUInt64 >>> (((6 : Int32) * vi) &&& 0x3f).toInt64.toUInt64).toInt64) &&& (63 : Int64)).toInt32) % (36 : Int32)))] [(.int (48 : Int32))])) _
      refine XS.iloadN X0.here hx rfl (hb hby d1_31) rfl ?_
      show Steps p.tables e below (s₁.setTop (mkF m 32 #[.val (.long vb_), .second, .val (.int vi), .val (.int (((((vb_.toUInt64 >>> (((6 : Int32) * vi) &&& 0x3f).toInt64.toUInt64).toInt64) &&& (63 : Int64)).toInt32) % (36 : Int32)))] [(.int (((((vb_.toUInt64 >>> (((6 : Int32) * vi) &&& 0x3f).toInt64.toUInt64).toInt64) &&& (63 : Int64)).toInt32) % (36 : Int32))), (.int (48 : Int32))])) _
      refine XS.bipush X0.here hx rfl (hb hby d1_32) ?_
      show Steps p.tables e below (s₁.setTop (mkF m 34 #[.val (.long vb_), .second, .val (.int vi), .val (.int (((((vb_.toUInt64 >>> (((6 : Int32) * vi) &&& 0x3f).toInt64.toUInt64).toInt64) &&& (63 : Int64)).toInt32) % (36 : Int32)))] [(.int (26 : Int32)), (.int (((((vb_.toUInt64 >>> (((6 : Int32) * vi) &&& 0x3f).toInt64.toUInt64).toInt64) &&& (63 : Int64)).toInt32) % (36 : Int32))), (.int (48 : Int32))])) _
      refine XS.isub X0.here hx rfl (hb hby d1_34) rfl ?_
      show Steps p.tables e below (s₁.setTop (mkF m 35 #[.val (.long vb_), .second, .val (.int vi), .val (.int (((((vb_.toUInt64 >>> (((6 : Int32) * vi) &&& 0x3f).toInt64.toUInt64).toInt64) &&& (63 : Int64)).toInt32) % (36 : Int32)))] [(.int ((((((vb_.toUInt64 >>> (((6 : Int32) * vi) &&& 0x3f).toInt64.toUInt64).toInt64) &&& (63 : Int64)).toInt32) % (36 : Int32)) - (26 : Int32))), (.int (48 : Int32))])) _
      refine XS.iadd X0.here hx rfl (hb hby d1_35) rfl ?_
      show Steps p.tables e below (s₁.setTop (mkF m 36 #[.val (.long vb_), .second, .val (.int vi), .val (.int (((((vb_.toUInt64 >>> (((6 : Int32) * vi) &&& 0x3f).toInt64.toUInt64).toInt64) &&& (63 : Int64)).toInt32) % (36 : Int32)))] [(.int ((48 : Int32) + ((((((vb_.toUInt64 >>> (((6 : Int32) * vi) &&& 0x3f).toInt64.toUInt64).toInt64) &&& (63 : Int64)).toInt32) % (36 : Int32)) - (26 : Int32))))])) _
      refine XS.i2c X0.here hx rfl (hb hby d1_36) rfl ?_
      show Steps p.tables e below (s₁.setTop (mkF m 37 #[.val (.long vb_), .second, .val (.int vi), .val (.int (((((vb_.toUInt64 >>> (((6 : Int32) * vi) &&& 0x3f).toInt64.toUInt64).toInt64) &&& (63 : Int64)).toInt32) % (36 : Int32)))] [(.int (((48 : Int32) + ((((((vb_.toUInt64 >>> (((6 : Int32) * vi) &&& 0x3f).toInt64.toUInt64).toInt64) &&& (63 : Int64)).toInt32) % (36 : Int32)) - (26 : Int32))).toUInt32.toUInt16.toUInt32.toInt32))])) _
      exact retN X0 hx (t := .char) Bd.returns (by simp) (hb hby d1_37) hr
    ·
      show Q1 Z vb_ vi h0 n0 _ s₁.heap _
      rw [e0]
      have hv : nar .char (((48 : Int32) + ((((((vb_.toUInt64 >>> (((6 : Int32) * vi) &&& 0x3f).toInt64.toUInt64).toInt64) &&& (63 : Int64)).toInt32) % (36 : Int32)) - (26 : Int32))).toUInt32.toUInt16.toUInt32.toInt32) = (own_ch vb_ vi) := by rw [own_ch, if_neg hc2]
      exact ⟨(congrArg (fun z => some (Value.int z)) hv), N0, rfl⟩
theorem d18_0 : decode prog_1_method_4_code 0 = .ok (.iload_n 0, 1) := by decide +kernel
theorem d18_1 : decode prog_1_method_4_code 1 = .ok (.bipush 65, 2) := by decide +kernel
theorem d18_3 : decode prog_1_method_4_code 3 = .ok (.if_icmp .lt 9, 3) := by decide +kernel
theorem d18_12 : decode prog_1_method_4_code 12 = .ok (.iload_n 0, 1) := by decide +kernel
theorem d18_13 : decode prog_1_method_4_code 13 = .ok (.bipush 48, 2) := by decide +kernel
theorem d18_15 : decode prog_1_method_4_code 15 = .ok (.if_icmp .lt 13, 3) := by decide +kernel
theorem d18_28 : decode prog_1_method_4_code 28 = .ok (.iconst 0, 1) := by decide +kernel
theorem d18_29 : decode prog_1_method_4_code 29 = .ok (.ireturn, 1) := by decide +kernel
theorem d18_18 : decode prog_1_method_4_code 18 = .ok (.iload_n 0, 1) := by decide +kernel
theorem d18_19 : decode prog_1_method_4_code 19 = .ok (.bipush 57, 2) := by decide +kernel
theorem d18_21 : decode prog_1_method_4_code 21 = .ok (.if_icmp .gt 7, 3) := by decide +kernel
theorem d18_24 : decode prog_1_method_4_code 24 = .ok (.iconst 1, 1) := by decide +kernel
theorem d18_25 : decode prog_1_method_4_code 25 = .ok (.goto 4, 3) := by decide +kernel
theorem d18_6 : decode prog_1_method_4_code 6 = .ok (.iload_n 0, 1) := by decide +kernel
theorem d18_7 : decode prog_1_method_4_code 7 = .ok (.bipush 90, 2) := by decide +kernel
theorem d18_9 : decode prog_1_method_4_code 9 = .ok (.if_icmp .le 15, 3) := by decide +kernel
theorem pn_43 : plainName "com/example/packet_radio_link/packetradiolink/frame/Address" = true := by first | (simp [plainName, overriddenIn]; done) | decide +kernel
theorem ef_rm18 (m : MethodId) (x0 : Int32) : entryFrame m #[(.int x0)] 1 = mkF m 0 #[.val (.int x0)] [] := by first | (simp [entryFrame, mkF, argsToLocals, Value.category]; done) | rfl
def own_csc (vc : Int32) : Int32 := (if vc < (65 : Int32) then (if vc < (48 : Int32) then (0 : Int32) else (if (57 : Int32) < vc then (0 : Int32) else (1 : Int32))) else (if (90 : Int32) < vc then (if vc < (48 : Int32) then (0 : Int32) else (if (57 : Int32) < vc then (0 : Int32) else (1 : Int32))) else (1 : Int32)))
def Q18 (Z : State) (vc : Int32) (h0 : Heap) (n0 : Nat) (v : Option Value) (h : Heap) (L : List Loc) : Prop := v = some (.int (own_csc vc)) ∧ Fr n0 L ∧ h = h0
set_option maxRecDepth 65536 in
set_option maxHeartbeats 40000000 in
theorem rm18 (l : Launch) (Z : State) (a0 : Array Value) (hw : ∀ d ∈ tables_1, d.before a0 Z = true) (ws : List Jvm.Cond) (vc : Int32) (h0 : Heap) (n0 : Nat) (Z0 : n0 ≤ h0.size) :
    MetFree l (⟨"com/example/packet_radio_link/packetradiolink/frame/Address", "isCallSignCharacter", "(I)Z"⟩ : MethodName) (head1 (Jvm.Cond.code (⟨"com/example/packet_radio_link/packetradiolink/frame/Address", "isCallSignCharacter", "(I)Z"⟩ : MethodName) prog_1_method_4_code 1 (some .boolean) :: ws) ({ frames := 0, cells := 0, slots := 0, locals := 0 } : Room)) (fun a U => a = #[(.int vc)] ∧ Z.Warmed39 U.vm ∧ U.heap = h0) (fun _ _ _ _ _ => True) (fun _ U o U' => ∃ v L, o = .returned v ∧ Q18 Z vc h0 n0 v U'.heap L ∧ FrameEnd U o U' L ({ frames := 0, cells := 0, slots := 0, locals := 0 } : Room).cells ({ frames := 0, cells := 0, slots := 0, locals := 0 } : Room).slots) := by
  refine MetFree.of_bodySF (plainFor_of_name pn_43) hisR ?_
  intro p e s m args below meth c s₁ Bd hml0 hP hK
  obtain ⟨rfl, hZ, hh⟩ := hP
  have hx := Bd.exec
  have hby := Bd.bytes
  have hml : c.maxLocals = 1 := hml0
  have hown : s.vm.findClass "com/example/packet_radio_link/packetradiolink/frame/Address" = some m.cls := findClass_of_methodNamed Bd.named
  have hnm := (name_of_methodNamed Bd.named Bd.method).1
  have X0 : Stand p l e ({ frames := 0, cells := 0, slots := 0, locals := 0 } : Room) s m #[(.int vc)] below meth c s₁ [] 0 0 := Stand.of_body Bd
  have e0 : s₁.heap = h0 := by rw [← hh, Bd.state]; rfl
  have N0 := Fr.nil n0
  have pre0 : ∀ t, Steps p.tables e below (s₁.setTop (mkF m 0 #[.val (.int vc)] [])) t → Steps p.tables e below (s₁.setTop (entryFrame m #[(.int vc)] 1)) t := fun t k => castTop (ef_rm18 m vc) k
  have pre1 : ∀ t, Steps p.tables e below (s₁.setTop (mkF m 3 #[.val (.int vc)] [(.int (65 : Int32)), (.int vc)])) t → Steps p.tables e below (s₁.setTop (entryFrame m #[(.int vc)] 1)) t := by
    intro t kt
    refine pre0 t ?_
    show Steps p.tables e below (s₁.setTop (mkF m 0 #[.val (.int vc)] [])) _
    refine XS.iloadN X0.here hx rfl (hb hby d18_0) rfl ?_
    show Steps p.tables e below (s₁.setTop (mkF m 1 #[.val (.int vc)] [(.int vc)])) _
    refine XS.bipush X0.here hx rfl (hb hby d18_1) ?_
    exact kt
  by_cases hc2 : vc < (65 : Int32)
  ·
    have pre3 : ∀ t, Steps p.tables e below (s₁.setTop (mkF m 15 #[.val (.int vc)] [(.int (48 : Int32)), (.int vc)])) t → Steps p.tables e below (s₁.setTop (entryFrame m #[(.int vc)] 1)) t := by
      intro t kt
      refine pre1 t ?_
      show Steps p.tables e below (s₁.setTop (mkF m 3 #[.val (.int vc)] [(.int (65 : Int32)), (.int vc)])) _
      refine XS.icmpYes X0.here hx rfl (pc0 := 3) (pc' := 12) rfl (hb hby d18_3) rfl (tlt (hc2 : vc < (65 : Int32))).1 (by decide) (by decide) ?_
      show Steps p.tables e below (s₁.setTop (mkF m 12 #[.val (.int vc)] [])) _
      refine XS.iloadN X0.here hx rfl (hb hby d18_12) rfl ?_
      show Steps p.tables e below (s₁.setTop (mkF m 13 #[.val (.int vc)] [(.int vc)])) _
      refine XS.bipush X0.here hx rfl (hb hby d18_13) ?_
      exact kt
    by_cases hc4 : vc < (48 : Int32)
    ·
      obtain ⟨fs, hr, hrun, hended, hW, hsame⟩ := X0.leave (v := some (.int (0 : Int32))) (fun h => by rw [Bd.returns] at h; cases h) (hlocks := BodyLoose.notSynchronized Bd)
      refine ⟨_, _, pre3 _ ?_, hrun, hended, _, _, rfl, ?_, ⟨_, rfl⟩, hW, hsame.mono (by decide) (by decide)⟩
      ·
        show Steps p.tables e below (s₁.setTop (mkF m 15 #[.val (.int vc)] [(.int (48 : Int32)), (.int vc)])) _
        refine XS.icmpYes X0.here hx rfl (pc0 := 15) (pc' := 28) rfl (hb hby d18_15) rfl (tlt (hc4 : vc < (48 : Int32))).1 (by decide) (by decide) ?_
        show Steps p.tables e below (s₁.setTop (mkF m 28 #[.val (.int vc)] [])) _
        refine XS.iconst X0.here hx rfl (hb hby d18_28) ?_
        show Steps p.tables e below (s₁.setTop (mkF m 29 #[.val (.int vc)] [(.int (0 : Int32))])) _
        exact retN X0 hx (t := .boolean) Bd.returns (by simp) (hb hby d18_29) hr
      ·
        show Q18 Z vc h0 n0 _ s₁.heap _
        rw [e0]
        have hv : (0 : Int32) = (own_csc vc) := by rw [own_csc, if_pos hc2, if_pos hc4]
        exact ⟨(congrArg (fun z => some (Value.int z)) hv), N0, rfl⟩
    ·
      have pre5 : ∀ t, Steps p.tables e below (s₁.setTop (mkF m 21 #[.val (.int vc)] [(.int (57 : Int32)), (.int vc)])) t → Steps p.tables e below (s₁.setTop (entryFrame m #[(.int vc)] 1)) t := by
        intro t kt
        refine pre3 t ?_
        show Steps p.tables e below (s₁.setTop (mkF m 15 #[.val (.int vc)] [(.int (48 : Int32)), (.int vc)])) _
        refine XS.icmpNo X0.here hx rfl (hb hby d18_15) rfl (flt (hc4 : ¬ (vc < (48 : Int32)))).1 ?_
        show Steps p.tables e below (s₁.setTop (mkF m 18 #[.val (.int vc)] [])) _
        refine XS.iloadN X0.here hx rfl (hb hby d18_18) rfl ?_
        show Steps p.tables e below (s₁.setTop (mkF m 19 #[.val (.int vc)] [(.int vc)])) _
        refine XS.bipush X0.here hx rfl (hb hby d18_19) ?_
        exact kt
      by_cases hc6 : (57 : Int32) < vc
      ·
        obtain ⟨fs, hr, hrun, hended, hW, hsame⟩ := X0.leave (v := some (.int (0 : Int32))) (fun h => by rw [Bd.returns] at h; cases h) (hlocks := BodyLoose.notSynchronized Bd)
        refine ⟨_, _, pre5 _ ?_, hrun, hended, _, _, rfl, ?_, ⟨_, rfl⟩, hW, hsame.mono (by decide) (by decide)⟩
        ·
          show Steps p.tables e below (s₁.setTop (mkF m 21 #[.val (.int vc)] [(.int (57 : Int32)), (.int vc)])) _
          refine XS.icmpYes X0.here hx rfl (pc0 := 21) (pc' := 28) rfl (hb hby d18_21) rfl (tlt (hc6 : (57 : Int32) < vc)).2.2.1 (by decide) (by decide) ?_
          show Steps p.tables e below (s₁.setTop (mkF m 28 #[.val (.int vc)] [])) _
          refine XS.iconst X0.here hx rfl (hb hby d18_28) ?_
          show Steps p.tables e below (s₁.setTop (mkF m 29 #[.val (.int vc)] [(.int (0 : Int32))])) _
          exact retN X0 hx (t := .boolean) Bd.returns (by simp) (hb hby d18_29) hr
        ·
          show Q18 Z vc h0 n0 _ s₁.heap _
          rw [e0]
          have hv : (0 : Int32) = (own_csc vc) := by rw [own_csc, if_pos hc2, if_neg hc4, if_pos hc6]
          exact ⟨(congrArg (fun z => some (Value.int z)) hv), N0, rfl⟩
      ·
        obtain ⟨fs, hr, hrun, hended, hW, hsame⟩ := X0.leave (v := some (.int (1 : Int32))) (fun h => by rw [Bd.returns] at h; cases h) (hlocks := BodyLoose.notSynchronized Bd)
        refine ⟨_, _, pre5 _ ?_, hrun, hended, _, _, rfl, ?_, ⟨_, rfl⟩, hW, hsame.mono (by decide) (by decide)⟩
        ·
          show Steps p.tables e below (s₁.setTop (mkF m 21 #[.val (.int vc)] [(.int (57 : Int32)), (.int vc)])) _
          refine XS.icmpNo X0.here hx rfl (hb hby d18_21) rfl (flt (hc6 : ¬ ((57 : Int32) < vc))).2.2.1 ?_
          show Steps p.tables e below (s₁.setTop (mkF m 24 #[.val (.int vc)] [])) _
          refine XS.iconst X0.here hx rfl (hb hby d18_24) ?_
          show Steps p.tables e below (s₁.setTop (mkF m 25 #[.val (.int vc)] [(.int (1 : Int32))])) _
          refine XS.goto X0.here hx rfl (pc0 := 25) (pc' := 29) rfl (hb hby d18_25) (by decide) (by decide) ?_
          show Steps p.tables e below (s₁.setTop (mkF m 29 #[.val (.int vc)] [(.int (1 : Int32))])) _
          exact retN X0 hx (t := .boolean) Bd.returns (by simp) (hb hby d18_29) hr
        ·
          show Q18 Z vc h0 n0 _ s₁.heap _
          rw [e0]
          have hv : (1 : Int32) = (own_csc vc) := by rw [own_csc, if_pos hc2, if_neg hc4, if_neg hc6]
          exact ⟨(congrArg (fun z => some (Value.int z)) hv), N0, rfl⟩
  ·
    have pre7 : ∀ t, Steps p.tables e below (s₁.setTop (mkF m 9 #[.val (.int vc)] [(.int (90 : Int32)), (.int vc)])) t → Steps p.tables e below (s₁.setTop (entryFrame m #[(.int vc)] 1)) t := by
      intro t kt
      refine pre1 t ?_
      show Steps p.tables e below (s₁.setTop (mkF m 3 #[.val (.int vc)] [(.int (65 : Int32)), (.int vc)])) _
      refine XS.icmpNo X0.here hx rfl (hb hby d18_3) rfl (flt (hc2 : ¬ (vc < (65 : Int32)))).1 ?_
      show Steps p.tables e below (s₁.setTop (mkF m 6 #[.val (.int vc)] [])) _
      refine XS.iloadN X0.here hx rfl (hb hby d18_6) rfl ?_
      show Steps p.tables e below (s₁.setTop (mkF m 7 #[.val (.int vc)] [(.int vc)])) _
      refine XS.bipush X0.here hx rfl (hb hby d18_7) ?_
      exact kt
    by_cases hc8 : (90 : Int32) < vc
    ·
      have pre9 : ∀ t, Steps p.tables e below (s₁.setTop (mkF m 15 #[.val (.int vc)] [(.int (48 : Int32)), (.int vc)])) t → Steps p.tables e below (s₁.setTop (entryFrame m #[(.int vc)] 1)) t := by
        intro t kt
        refine pre7 t ?_
        show Steps p.tables e below (s₁.setTop (mkF m 9 #[.val (.int vc)] [(.int (90 : Int32)), (.int vc)])) _
        refine XS.icmpNo X0.here hx rfl (hb hby d18_9) rfl (tlt (hc8 : (90 : Int32) < vc)).2.2.2 ?_
        show Steps p.tables e below (s₁.setTop (mkF m 12 #[.val (.int vc)] [])) _
        refine XS.iloadN X0.here hx rfl (hb hby d18_12) rfl ?_
        show Steps p.tables e below (s₁.setTop (mkF m 13 #[.val (.int vc)] [(.int vc)])) _
        refine XS.bipush X0.here hx rfl (hb hby d18_13) ?_
        exact kt
      by_cases hc10 : vc < (48 : Int32)
      ·
        obtain ⟨fs, hr, hrun, hended, hW, hsame⟩ := X0.leave (v := some (.int (0 : Int32))) (fun h => by rw [Bd.returns] at h; cases h) (hlocks := BodyLoose.notSynchronized Bd)
        refine ⟨_, _, pre9 _ ?_, hrun, hended, _, _, rfl, ?_, ⟨_, rfl⟩, hW, hsame.mono (by decide) (by decide)⟩
        ·
          show Steps p.tables e below (s₁.setTop (mkF m 15 #[.val (.int vc)] [(.int (48 : Int32)), (.int vc)])) _
          refine XS.icmpYes X0.here hx rfl (pc0 := 15) (pc' := 28) rfl (hb hby d18_15) rfl (tlt (hc10 : vc < (48 : Int32))).1 (by decide) (by decide) ?_
          show Steps p.tables e below (s₁.setTop (mkF m 28 #[.val (.int vc)] [])) _
          refine XS.iconst X0.here hx rfl (hb hby d18_28) ?_
          show Steps p.tables e below (s₁.setTop (mkF m 29 #[.val (.int vc)] [(.int (0 : Int32))])) _
          exact retN X0 hx (t := .boolean) Bd.returns (by simp) (hb hby d18_29) hr
        ·
          show Q18 Z vc h0 n0 _ s₁.heap _
          rw [e0]
          have hv : (0 : Int32) = (own_csc vc) := by rw [own_csc, if_neg hc2, if_pos hc8, if_pos hc10]
          exact ⟨(congrArg (fun z => some (Value.int z)) hv), N0, rfl⟩
      ·
        have pre11 : ∀ t, Steps p.tables e below (s₁.setTop (mkF m 21 #[.val (.int vc)] [(.int (57 : Int32)), (.int vc)])) t → Steps p.tables e below (s₁.setTop (entryFrame m #[(.int vc)] 1)) t := by
          intro t kt
          refine pre9 t ?_
          show Steps p.tables e below (s₁.setTop (mkF m 15 #[.val (.int vc)] [(.int (48 : Int32)), (.int vc)])) _
          refine XS.icmpNo X0.here hx rfl (hb hby d18_15) rfl (flt (hc10 : ¬ (vc < (48 : Int32)))).1 ?_
          show Steps p.tables e below (s₁.setTop (mkF m 18 #[.val (.int vc)] [])) _
          refine XS.iloadN X0.here hx rfl (hb hby d18_18) rfl ?_
          show Steps p.tables e below (s₁.setTop (mkF m 19 #[.val (.int vc)] [(.int vc)])) _
          refine XS.bipush X0.here hx rfl (hb hby d18_19) ?_
          exact kt
        by_cases hc12 : (57 : Int32) < vc
        ·
          obtain ⟨fs, hr, hrun, hended, hW, hsame⟩ := X0.leave (v := some (.int (0 : Int32))) (fun h => by rw [Bd.returns] at h; cases h) (hlocks := BodyLoose.notSynchronized Bd)
          refine ⟨_, _, pre11 _ ?_, hrun, hended, _, _, rfl, ?_, ⟨_, rfl⟩, hW, hsame.mono (by decide) (by decide)⟩
          ·
            show Steps p.tables e below (s₁.setTop (mkF m 21 #[.val (.int vc)] [(.int (57 : Int32)), (.int vc)])) _
            refine XS.icmpYes X0.here hx rfl (pc0 := 21) (pc' := 28) rfl (hb hby d18_21) rfl (tlt (hc12 : (57 : Int32) < vc)).2.2.1 (by decide) (by decide) ?_
            show Steps p.tables e below (s₁.setTop (mkF m 28 #[.val (.int vc)] [])) _
            refine XS.iconst X0.here hx rfl (hb hby d18_28) ?_
            show Steps p.tables e below (s₁.setTop (mkF m 29 #[.val (.int vc)] [(.int (0 : Int32))])) _
            exact retN X0 hx (t := .boolean) Bd.returns (by simp) (hb hby d18_29) hr
          ·
            show Q18 Z vc h0 n0 _ s₁.heap _
            rw [e0]
            have hv : (0 : Int32) = (own_csc vc) := by rw [own_csc, if_neg hc2, if_pos hc8, if_neg hc10, if_pos hc12]
            exact ⟨(congrArg (fun z => some (Value.int z)) hv), N0, rfl⟩
        ·
          obtain ⟨fs, hr, hrun, hended, hW, hsame⟩ := X0.leave (v := some (.int (1 : Int32))) (fun h => by rw [Bd.returns] at h; cases h) (hlocks := BodyLoose.notSynchronized Bd)
          refine ⟨_, _, pre11 _ ?_, hrun, hended, _, _, rfl, ?_, ⟨_, rfl⟩, hW, hsame.mono (by decide) (by decide)⟩
          ·
            show Steps p.tables e below (s₁.setTop (mkF m 21 #[.val (.int vc)] [(.int (57 : Int32)), (.int vc)])) _
            refine XS.icmpNo X0.here hx rfl (hb hby d18_21) rfl (flt (hc12 : ¬ ((57 : Int32) < vc))).2.2.1 ?_
            show Steps p.tables e below (s₁.setTop (mkF m 24 #[.val (.int vc)] [])) _
            refine XS.iconst X0.here hx rfl (hb hby d18_24) ?_
            show Steps p.tables e below (s₁.setTop (mkF m 25 #[.val (.int vc)] [(.int (1 : Int32))])) _
            refine XS.goto X0.here hx rfl (pc0 := 25) (pc' := 29) rfl (hb hby d18_25) (by decide) (by decide) ?_
            show Steps p.tables e below (s₁.setTop (mkF m 29 #[.val (.int vc)] [(.int (1 : Int32))])) _
            exact retN X0 hx (t := .boolean) Bd.returns (by simp) (hb hby d18_29) hr
          ·
            show Q18 Z vc h0 n0 _ s₁.heap _
            rw [e0]
            have hv : (1 : Int32) = (own_csc vc) := by rw [own_csc, if_neg hc2, if_pos hc8, if_neg hc10, if_neg hc12]
            exact ⟨(congrArg (fun z => some (Value.int z)) hv), N0, rfl⟩
    ·
      obtain ⟨fs, hr, hrun, hended, hW, hsame⟩ := X0.leave (v := some (.int (1 : Int32))) (fun h => by rw [Bd.returns] at h; cases h) (hlocks := BodyLoose.notSynchronized Bd)
      refine ⟨_, _, pre7 _ ?_, hrun, hended, _, _, rfl, ?_, ⟨_, rfl⟩, hW, hsame.mono (by decide) (by decide)⟩
      ·
        show Steps p.tables e below (s₁.setTop (mkF m 9 #[.val (.int vc)] [(.int (90 : Int32)), (.int vc)])) _
        refine XS.icmpYes X0.here hx rfl (pc0 := 9) (pc' := 24) rfl (hb hby d18_9) rfl (flt (hc8 : ¬ ((90 : Int32) < vc))).2.2.2 (by decide) (by decide) ?_
        show Steps p.tables e below (s₁.setTop (mkF m 24 #[.val (.int vc)] [])) _
        refine XS.iconst X0.here hx rfl (hb hby d18_24) ?_
        show Steps p.tables e below (s₁.setTop (mkF m 25 #[.val (.int vc)] [(.int (1 : Int32))])) _
        refine XS.goto X0.here hx rfl (pc0 := 25) (pc' := 29) rfl (hb hby d18_25) (by decide) (by decide) ?_
        show Steps p.tables e below (s₁.setTop (mkF m 29 #[.val (.int vc)] [(.int (1 : Int32))])) _
        exact retN X0 hx (t := .boolean) Bd.returns (by simp) (hb hby d18_29) hr
      ·
        show Q18 Z vc h0 n0 _ s₁.heap _
        rw [e0]
        have hv : (1 : Int32) = (own_csc vc) := by rw [own_csc, if_neg hc2, if_neg hc8]
        exact ⟨(congrArg (fun z => some (Value.int z)) hv), N0, rfl⟩
theorem d19_0 : decode prog_1_method_5_code 0 = .ok (.lload_n 0, 1) := by decide +kernel
theorem d19_1 : decode prog_1_method_5_code 1 = .ok (.iload_n 3, 1) := by decide +kernel
theorem d19_2 : decode prog_1_method_5_code 2 = .ok (.i2l, 1) := by decide +kernel
theorem d19_3 : decode prog_1_method_5_code 3 = .ok (.bipush 8, 2) := by decide +kernel
theorem d19_5 : decode prog_1_method_5_code 5 = .ok (.iload_n 2, 1) := by decide +kernel
theorem d19_6 : decode prog_1_method_5_code 6 = .ok (.imul, 1) := by decide +kernel
theorem d19_7 : decode prog_1_method_5_code 7 = .ok (.lshl, 1) := by decide +kernel
theorem d19_8 : decode prog_1_method_5_code 8 = .ok (.lor, 1) := by decide +kernel
theorem d19_9 : decode prog_1_method_5_code 9 = .ok (.lreturn, 1) := by decide +kernel
theorem ef_rm19 (m : MethodId) (x0 : Int64) (x1 : Int32) (x2 : Int32) : entryFrame m #[(.long x0), (.int x1), (.int x2)] 4 = mkF m 0 #[.val (.long x0), .second, .val (.int x1), .val (.int x2)] [] := by first | (simp [entryFrame, mkF, argsToLocals, Value.category]; done) | rfl
def own_wc (vq : Int64) (vi : Int32) (vc : Int32) : Int64 := (vq ||| ((vc.toInt64) <<< (((8 : Int32) * vi) &&& 0x3f).toInt64))
def Q19 (Z : State) (vq : Int64) (vi : Int32) (vc : Int32) (h0 : Heap) (n0 : Nat) (v : Option Value) (h : Heap) (L : List Loc) : Prop := v = some (.long (own_wc vq vi vc)) ∧ Fr n0 L ∧ h = h0
set_option maxRecDepth 65536 in
set_option maxHeartbeats 40000000 in
theorem rm19 (l : Launch) (Z : State) (a0 : Array Value) (hw : ∀ d ∈ tables_1, d.before a0 Z = true) (ws : List Jvm.Cond) (vq : Int64) (vi : Int32) (vc : Int32) (h0 : Heap) (n0 : Nat) (Z0 : n0 ≤ h0.size) :
    MetFree l (⟨"com/example/packet_radio_link/packetradiolink/frame/Address", "withCharacter", "(JII)J"⟩ : MethodName) (head1 (Jvm.Cond.code (⟨"com/example/packet_radio_link/packetradiolink/frame/Address", "withCharacter", "(JII)J"⟩ : MethodName) prog_1_method_5_code 4 (some .long) :: ws) ({ frames := 0, cells := 0, slots := 0, locals := 0 } : Room)) (fun a U => a = #[(.long vq), (.int vi), (.int vc)] ∧ Z.Warmed39 U.vm ∧ U.heap = h0) (fun _ _ _ _ _ => True) (fun _ U o U' => ∃ v L, o = .returned v ∧ Q19 Z vq vi vc h0 n0 v U'.heap L ∧ FrameEnd U o U' L ({ frames := 0, cells := 0, slots := 0, locals := 0 } : Room).cells ({ frames := 0, cells := 0, slots := 0, locals := 0 } : Room).slots) := by
  refine MetFree.of_bodySF (plainFor_of_name pn_43) hisR ?_
  intro p e s m args below meth c s₁ Bd hml0 hP hK
  obtain ⟨rfl, hZ, hh⟩ := hP
  have hx := Bd.exec
  have hby := Bd.bytes
  have hml : c.maxLocals = 4 := hml0
  have hown : s.vm.findClass "com/example/packet_radio_link/packetradiolink/frame/Address" = some m.cls := findClass_of_methodNamed Bd.named
  have hnm := (name_of_methodNamed Bd.named Bd.method).1
  have X0 : Stand p l e ({ frames := 0, cells := 0, slots := 0, locals := 0 } : Room) s m #[(.long vq), (.int vi), (.int vc)] below meth c s₁ [] 0 0 := Stand.of_body Bd
  have e0 : s₁.heap = h0 := by rw [← hh, Bd.state]; rfl
  have N0 := Fr.nil n0
  have pre0 : ∀ t, Steps p.tables e below (s₁.setTop (mkF m 0 #[.val (.long vq), .second, .val (.int vi), .val (.int vc)] [])) t → Steps p.tables e below (s₁.setTop (entryFrame m #[(.long vq), (.int vi), (.int vc)] 4)) t := fun t k => castTop (ef_rm19 m vq vi vc) k
  obtain ⟨fs, hr, hrun, hended, hW, hsame⟩ := X0.leave (v := some (.long (vq ||| ((vc.toInt64) <<< (((8 : Int32) * vi) &&& 0x3f).toInt64)))) (fun h => by rw [Bd.returns] at h; cases h) (hlocks := BodyLoose.notSynchronized Bd)
  refine ⟨_, _, pre0 _ ?_, hrun, hended, _, _, rfl, ?_, ⟨_, rfl⟩, hW, hsame.mono (by decide) (by decide)⟩
  ·
    show Steps p.tables e below (s₁.setTop (mkF m 0 #[.val (.long vq), .second, .val (.int vi), .val (.int vc)] [])) _
    refine XS.lloadN X0.here hx rfl (hb hby d19_0) rfl ?_
    show Steps p.tables e below (s₁.setTop (mkF m 1 #[.val (.long vq), .second, .val (.int vi), .val (.int vc)] [(.long vq)])) _
    refine XS.iloadN X0.here hx rfl (hb hby d19_1) rfl ?_
    show Steps p.tables e below (s₁.setTop (mkF m 2 #[.val (.long vq), .second, .val (.int vi), .val (.int vc)] [(.int vc), (.long vq)])) _
    refine XS.i2l X0.here hx rfl (hb hby d19_2) rfl ?_
    show Steps p.tables e below (s₁.setTop (mkF m 3 #[.val (.long vq), .second, .val (.int vi), .val (.int vc)] [(.long (vc.toInt64)), (.long vq)])) _
    refine XS.bipush X0.here hx rfl (hb hby d19_3) ?_
    show Steps p.tables e below (s₁.setTop (mkF m 5 #[.val (.long vq), .second, .val (.int vi), .val (.int vc)] [(.int (8 : Int32)), (.long (vc.toInt64)), (.long vq)])) _
    refine XS.iloadN X0.here hx rfl (hb hby d19_5) rfl ?_
    show Steps p.tables e below (s₁.setTop (mkF m 6 #[.val (.long vq), .second, .val (.int vi), .val (.int vc)] [(.int vi), (.int (8 : Int32)), (.long (vc.toInt64)), (.long vq)])) _
    refine XS.imul X0.here hx rfl (hb hby d19_6) rfl ?_
    show Steps p.tables e below (s₁.setTop (mkF m 7 #[.val (.long vq), .second, .val (.int vi), .val (.int vc)] [(.int ((8 : Int32) * vi)), (.long (vc.toInt64)), (.long vq)])) _
    refine XS.lshl X0.here hx rfl (hb hby d19_7) rfl ?_
    show Steps p.tables e below (s₁.setTop (mkF m 8 #[.val (.long vq), .second, .val (.int vi), .val (.int vc)] [(.long ((vc.toInt64) <<< (((8 : Int32) * vi) &&& 0x3f).toInt64)), (.long vq)])) _
    refine XS.lor X0.here hx rfl (hb hby d19_8) rfl ?_
    show Steps p.tables e below (s₁.setTop (mkF m 9 #[.val (.long vq), .second, .val (.int vi), .val (.int vc)] [(.long (vq ||| ((vc.toInt64) <<< (((8 : Int32) * vi) &&& 0x3f).toInt64)))])) _
    exact retOut X0 hx (t := .long) (i := .lreturn) Bd.returns rfl (Or.inr (Or.inl ⟨rfl, rfl, _, rfl⟩)) (hb hby d19_9) hr
  ·
    show Q19 Z vq vi vc h0 n0 _ s₁.heap _
    rw [e0]
    have hv : (vq ||| ((vc.toInt64) <<< (((8 : Int32) * vi) &&& 0x3f).toInt64)) = (own_wc vq vi vc) := by rw [own_wc]
    exact ⟨(congrArg (fun z => some (Value.long z)) hv), N0, rfl⟩
theorem d2_0 : decode method_3_code 0 = .ok (.iload 6, 2) := by decide +kernel
theorem d2_2 : decode method_3_code 2 = .ok (.iconst 1, 1) := by decide +kernel
theorem d2_3 : decode method_3_code 3 = .ok (.if_icmp .ne 18, 3) := by decide +kernel
theorem d2_6 : decode method_3_code 6 = .ok (.new 9, 3) := by decide +kernel
theorem d2_9 : decode method_3_code 9 = .ok (.dup, 1) := by decide +kernel
theorem d2_10 : decode method_3_code 10 = .ok (.iconst 1, 1) := by decide +kernel
theorem d2_11 : decode method_3_code 11 = .ok (.newarray .char, 2) := by decide +kernel
theorem d2_13 : decode method_3_code 13 = .ok (.dup, 1) := by decide +kernel
theorem d2_14 : decode method_3_code 14 = .ok (.iconst 0, 1) := by decide +kernel
theorem d2_15 : decode method_3_code 15 = .ok (.iload_n 0, 1) := by decide +kernel
theorem d2_16 : decode method_3_code 16 = .ok (.castore, 1) := by decide +kernel
theorem pd_0 : parseMethodDescriptor "([C)V" = some ⟨[(.array .char)], none⟩ := by decide +kernel
theorem d2_17 : decode method_3_code 17 = .ok (.invokespecial 11, 3) := by decide +kernel
theorem d2_20 : decode method_3_code 20 = .ok (.areturn, 1) := by decide +kernel
theorem d2_21 : decode method_3_code 21 = .ok (.iload 6, 2) := by decide +kernel
theorem d2_23 : decode method_3_code 23 = .ok (.iconst 2, 1) := by decide +kernel
theorem d2_24 : decode method_3_code 24 = .ok (.if_icmp .ne 22, 3) := by decide +kernel
theorem d2_27 : decode method_3_code 27 = .ok (.new 9, 3) := by decide +kernel
theorem d2_30 : decode method_3_code 30 = .ok (.dup, 1) := by decide +kernel
theorem d2_31 : decode method_3_code 31 = .ok (.iconst 2, 1) := by decide +kernel
theorem d2_32 : decode method_3_code 32 = .ok (.newarray .char, 2) := by decide +kernel
theorem d2_34 : decode method_3_code 34 = .ok (.dup, 1) := by decide +kernel
theorem d2_35 : decode method_3_code 35 = .ok (.iconst 0, 1) := by decide +kernel
theorem d2_36 : decode method_3_code 36 = .ok (.iload_n 0, 1) := by decide +kernel
theorem d2_37 : decode method_3_code 37 = .ok (.castore, 1) := by decide +kernel
theorem d2_38 : decode method_3_code 38 = .ok (.dup, 1) := by decide +kernel
theorem d2_39 : decode method_3_code 39 = .ok (.iconst 1, 1) := by decide +kernel
theorem d2_40 : decode method_3_code 40 = .ok (.iload_n 1, 1) := by decide +kernel
theorem d2_41 : decode method_3_code 41 = .ok (.castore, 1) := by decide +kernel
theorem d2_42 : decode method_3_code 42 = .ok (.invokespecial 11, 3) := by decide +kernel
theorem d2_45 : decode method_3_code 45 = .ok (.areturn, 1) := by decide +kernel
theorem d2_46 : decode method_3_code 46 = .ok (.iload 6, 2) := by decide +kernel
theorem d2_48 : decode method_3_code 48 = .ok (.iconst 3, 1) := by decide +kernel
theorem d2_49 : decode method_3_code 49 = .ok (.if_icmp .ne 26, 3) := by decide +kernel
theorem d2_52 : decode method_3_code 52 = .ok (.new 9, 3) := by decide +kernel
theorem d2_55 : decode method_3_code 55 = .ok (.dup, 1) := by decide +kernel
theorem d2_56 : decode method_3_code 56 = .ok (.iconst 3, 1) := by decide +kernel
theorem d2_57 : decode method_3_code 57 = .ok (.newarray .char, 2) := by decide +kernel
theorem d2_59 : decode method_3_code 59 = .ok (.dup, 1) := by decide +kernel
theorem d2_60 : decode method_3_code 60 = .ok (.iconst 0, 1) := by decide +kernel
theorem d2_61 : decode method_3_code 61 = .ok (.iload_n 0, 1) := by decide +kernel
theorem d2_62 : decode method_3_code 62 = .ok (.castore, 1) := by decide +kernel
theorem d2_63 : decode method_3_code 63 = .ok (.dup, 1) := by decide +kernel
theorem d2_64 : decode method_3_code 64 = .ok (.iconst 1, 1) := by decide +kernel
theorem d2_65 : decode method_3_code 65 = .ok (.iload_n 1, 1) := by decide +kernel
theorem d2_66 : decode method_3_code 66 = .ok (.castore, 1) := by decide +kernel
theorem d2_67 : decode method_3_code 67 = .ok (.dup, 1) := by decide +kernel
theorem d2_68 : decode method_3_code 68 = .ok (.iconst 2, 1) := by decide +kernel
theorem d2_69 : decode method_3_code 69 = .ok (.iload_n 2, 1) := by decide +kernel
theorem d2_70 : decode method_3_code 70 = .ok (.castore, 1) := by decide +kernel
theorem d2_71 : decode method_3_code 71 = .ok (.invokespecial 11, 3) := by decide +kernel
theorem d2_74 : decode method_3_code 74 = .ok (.areturn, 1) := by decide +kernel
theorem d2_75 : decode method_3_code 75 = .ok (.iload 6, 2) := by decide +kernel
theorem d2_77 : decode method_3_code 77 = .ok (.iconst 4, 1) := by decide +kernel
theorem d2_78 : decode method_3_code 78 = .ok (.if_icmp .ne 30, 3) := by decide +kernel
theorem d2_81 : decode method_3_code 81 = .ok (.new 9, 3) := by decide +kernel
theorem d2_84 : decode method_3_code 84 = .ok (.dup, 1) := by decide +kernel
theorem d2_85 : decode method_3_code 85 = .ok (.iconst 4, 1) := by decide +kernel
theorem d2_86 : decode method_3_code 86 = .ok (.newarray .char, 2) := by decide +kernel
theorem d2_88 : decode method_3_code 88 = .ok (.dup, 1) := by decide +kernel
theorem d2_89 : decode method_3_code 89 = .ok (.iconst 0, 1) := by decide +kernel
theorem d2_90 : decode method_3_code 90 = .ok (.iload_n 0, 1) := by decide +kernel
theorem d2_91 : decode method_3_code 91 = .ok (.castore, 1) := by decide +kernel
theorem d2_92 : decode method_3_code 92 = .ok (.dup, 1) := by decide +kernel
theorem d2_93 : decode method_3_code 93 = .ok (.iconst 1, 1) := by decide +kernel
theorem d2_94 : decode method_3_code 94 = .ok (.iload_n 1, 1) := by decide +kernel
theorem d2_95 : decode method_3_code 95 = .ok (.castore, 1) := by decide +kernel
theorem d2_96 : decode method_3_code 96 = .ok (.dup, 1) := by decide +kernel
theorem d2_97 : decode method_3_code 97 = .ok (.iconst 2, 1) := by decide +kernel
theorem d2_98 : decode method_3_code 98 = .ok (.iload_n 2, 1) := by decide +kernel
theorem d2_99 : decode method_3_code 99 = .ok (.castore, 1) := by decide +kernel
theorem d2_100 : decode method_3_code 100 = .ok (.dup, 1) := by decide +kernel
theorem d2_101 : decode method_3_code 101 = .ok (.iconst 3, 1) := by decide +kernel
theorem d2_102 : decode method_3_code 102 = .ok (.iload_n 3, 1) := by decide +kernel
theorem d2_103 : decode method_3_code 103 = .ok (.castore, 1) := by decide +kernel
theorem d2_104 : decode method_3_code 104 = .ok (.invokespecial 11, 3) := by decide +kernel
theorem d2_107 : decode method_3_code 107 = .ok (.areturn, 1) := by decide +kernel
theorem d2_108 : decode method_3_code 108 = .ok (.iload 6, 2) := by decide +kernel
theorem d2_110 : decode method_3_code 110 = .ok (.iconst 5, 1) := by decide +kernel
theorem d2_111 : decode method_3_code 111 = .ok (.if_icmp .ne 35, 3) := by decide +kernel
theorem d2_114 : decode method_3_code 114 = .ok (.new 9, 3) := by decide +kernel
theorem d2_117 : decode method_3_code 117 = .ok (.dup, 1) := by decide +kernel
theorem d2_118 : decode method_3_code 118 = .ok (.iconst 5, 1) := by decide +kernel
theorem d2_119 : decode method_3_code 119 = .ok (.newarray .char, 2) := by decide +kernel
theorem d2_121 : decode method_3_code 121 = .ok (.dup, 1) := by decide +kernel
theorem d2_122 : decode method_3_code 122 = .ok (.iconst 0, 1) := by decide +kernel
theorem d2_123 : decode method_3_code 123 = .ok (.iload_n 0, 1) := by decide +kernel
theorem d2_124 : decode method_3_code 124 = .ok (.castore, 1) := by decide +kernel
theorem d2_125 : decode method_3_code 125 = .ok (.dup, 1) := by decide +kernel
theorem d2_126 : decode method_3_code 126 = .ok (.iconst 1, 1) := by decide +kernel
theorem d2_127 : decode method_3_code 127 = .ok (.iload_n 1, 1) := by decide +kernel
theorem d2_128 : decode method_3_code 128 = .ok (.castore, 1) := by decide +kernel
theorem d2_129 : decode method_3_code 129 = .ok (.dup, 1) := by decide +kernel
theorem d2_130 : decode method_3_code 130 = .ok (.iconst 2, 1) := by decide +kernel
theorem d2_131 : decode method_3_code 131 = .ok (.iload_n 2, 1) := by decide +kernel
theorem d2_132 : decode method_3_code 132 = .ok (.castore, 1) := by decide +kernel
theorem d2_133 : decode method_3_code 133 = .ok (.dup, 1) := by decide +kernel
theorem d2_134 : decode method_3_code 134 = .ok (.iconst 3, 1) := by decide +kernel
theorem d2_135 : decode method_3_code 135 = .ok (.iload_n 3, 1) := by decide +kernel
theorem d2_136 : decode method_3_code 136 = .ok (.castore, 1) := by decide +kernel
theorem d2_137 : decode method_3_code 137 = .ok (.dup, 1) := by decide +kernel
theorem d2_138 : decode method_3_code 138 = .ok (.iconst 4, 1) := by decide +kernel
theorem d2_139 : decode method_3_code 139 = .ok (.iload 4, 2) := by decide +kernel
theorem d2_141 : decode method_3_code 141 = .ok (.castore, 1) := by decide +kernel
theorem d2_142 : decode method_3_code 142 = .ok (.invokespecial 11, 3) := by decide +kernel
theorem d2_145 : decode method_3_code 145 = .ok (.areturn, 1) := by decide +kernel
theorem d2_146 : decode method_3_code 146 = .ok (.new 9, 3) := by decide +kernel
theorem d2_149 : decode method_3_code 149 = .ok (.dup, 1) := by decide +kernel
theorem d2_150 : decode method_3_code 150 = .ok (.bipush 6, 2) := by decide +kernel
theorem d2_152 : decode method_3_code 152 = .ok (.newarray .char, 2) := by decide +kernel
theorem d2_154 : decode method_3_code 154 = .ok (.dup, 1) := by decide +kernel
theorem d2_155 : decode method_3_code 155 = .ok (.iconst 0, 1) := by decide +kernel
theorem d2_156 : decode method_3_code 156 = .ok (.iload_n 0, 1) := by decide +kernel
theorem d2_157 : decode method_3_code 157 = .ok (.castore, 1) := by decide +kernel
theorem d2_158 : decode method_3_code 158 = .ok (.dup, 1) := by decide +kernel
theorem d2_159 : decode method_3_code 159 = .ok (.iconst 1, 1) := by decide +kernel
theorem d2_160 : decode method_3_code 160 = .ok (.iload_n 1, 1) := by decide +kernel
theorem d2_161 : decode method_3_code 161 = .ok (.castore, 1) := by decide +kernel
theorem d2_162 : decode method_3_code 162 = .ok (.dup, 1) := by decide +kernel
theorem d2_163 : decode method_3_code 163 = .ok (.iconst 2, 1) := by decide +kernel
theorem d2_164 : decode method_3_code 164 = .ok (.iload_n 2, 1) := by decide +kernel
theorem d2_165 : decode method_3_code 165 = .ok (.castore, 1) := by decide +kernel
theorem d2_166 : decode method_3_code 166 = .ok (.dup, 1) := by decide +kernel
theorem d2_167 : decode method_3_code 167 = .ok (.iconst 3, 1) := by decide +kernel
theorem d2_168 : decode method_3_code 168 = .ok (.iload_n 3, 1) := by decide +kernel
theorem d2_169 : decode method_3_code 169 = .ok (.castore, 1) := by decide +kernel
theorem d2_170 : decode method_3_code 170 = .ok (.dup, 1) := by decide +kernel
theorem d2_171 : decode method_3_code 171 = .ok (.iconst 4, 1) := by decide +kernel
theorem d2_172 : decode method_3_code 172 = .ok (.iload 4, 2) := by decide +kernel
theorem d2_174 : decode method_3_code 174 = .ok (.castore, 1) := by decide +kernel
theorem d2_175 : decode method_3_code 175 = .ok (.dup, 1) := by decide +kernel
theorem d2_176 : decode method_3_code 176 = .ok (.iconst 5, 1) := by decide +kernel
theorem d2_177 : decode method_3_code 177 = .ok (.iload 5, 2) := by decide +kernel
theorem d2_179 : decode method_3_code 179 = .ok (.castore, 1) := by decide +kernel
theorem d2_180 : decode method_3_code 180 = .ok (.invokespecial 11, 3) := by decide +kernel
theorem d2_183 : decode method_3_code 183 = .ok (.areturn, 1) := by decide +kernel
theorem ef_rm2 (m : MethodId) (x0 : Int32) (x1 : Int32) (x2 : Int32) (x3 : Int32) (x4 : Int32) (x5 : Int32) (x6 : Int32) : entryFrame m #[(.int x0), (.int x1), (.int x2), (.int x3), (.int x4), (.int x5), (.int x6)] 7 = mkF m 0 #[.val (.int x0), .val (.int x1), .val (.int x2), .val (.int x3), .val (.int x4), .val (.int x5), .val (.int x6)] [] := by first | (simp [entryFrame, mkF, argsToLocals, Value.category]; done) | rfl
def Q2 (Z : State) (c0 : Int32) (c1 : Int32) (c2 : Int32) (c3 : Int32) (c4 : Int32) (c5 : Int32) (nn : Nat) (vz : Int32) (h0 : Heap) (n0 : Nat) (v : Option Value) (h : Heap) (L : List Loc) : Prop := (∃ (xr vt : Addr) (kb : ClassId), v = some (.ref xr) ∧ h0.size ≤ xr ∧ h0.size ≤ vt ∧ vt ≠ xr ∧ Exa Z h xr "java/lang/String" ∧ Fld Z h xr "java/lang/String" "coder" "B" (.int (0 : Int32)) ∧ Fld Z h xr "java/lang/String" "value" "[B" (.ref vt) ∧ Arv Z h vt kb .byte (Int32.ofNat nn) (List.map Value.int (List.map (fun c => c.toInt8.toInt32) (List.take nn ([nar .char c0, nar .char c1, nar .char c2, nar .char c3, nar .char c4, nar .char c5] : List Int32)))) (.int (0 : Int32))) ∧ Fr n0 L ∧ Keep h0 h []
set_option maxRecDepth 65536 in
set_option maxHeartbeats 40000000 in
theorem rm2 (l : Launch) (Z : State) (a0 : Array Value) (hw : ∀ d ∈ tables_1, d.before a0 Z = true) (ws : List Jvm.Cond) (c0 : Int32) (c1 : Int32) (c2 : Int32) (c3 : Int32) (c4 : Int32) (c5 : Int32) (nn : Nat) (vz : Int32) (h0 : Heap) (n0 : Nat) (Z0 : n0 ≤ h0.size) (S_cs : Sta Z h0 "java/lang/String" "COMPACT_STRINGS" "Z" (.int vz)) (hcs : ¬ vz = 0) (ho : ∀ c ∈ ([nar .char c0, nar .char c1, nar .char c2, nar .char c3, nar .char c4, nar .char c5] : List Int32), ¬ c < 0 ∧ ¬ (255 : Int32) < c) (h1n : 1 ≤ nn) (hn6 : nn ≤ 6) :
    MetFree l (⟨"com/example/packet_radio_link/packetradiolink/frame/AddressEqualsPinLaw", "str", "(CCCCCCI)Ljava/lang/String;"⟩ : MethodName) (head1 (Jvm.Cond.code (⟨"com/example/packet_radio_link/packetradiolink/frame/AddressEqualsPinLaw", "str", "(CCCCCCI)Ljava/lang/String;"⟩ : MethodName) method_3_code 7 (some (.object "java/lang/String")) :: ws) ({ frames := 4, cells := 3, slots := 16, locals := 66 } : Room)) (fun a U => a = #[(.int c0), (.int c1), (.int c2), (.int c3), (.int c4), (.int c5), (.int (Int32.ofNat nn))] ∧ Z.Warmed39 U.vm ∧ U.heap = h0) (fun _ _ _ _ _ => True) (fun _ U o U' => ∃ v L, o = .returned v ∧ Q2 Z c0 c1 c2 c3 c4 c5 nn vz h0 n0 v U'.heap L ∧ FrameEnd U o U' L ({ frames := 4, cells := 3, slots := 16, locals := 66 } : Room).cells ({ frames := 4, cells := 3, slots := 16, locals := 66 } : Room).slots) := by
  refine MetFree.of_bodySF (plainFor_of_name pn_26) hisR ?_
  intro p e s m args below meth c s₁ Bd hml0 hP hK
  obtain ⟨rfl, hZ, hh⟩ := hP
  have hx := Bd.exec
  have hby := Bd.bytes
  have hml : c.maxLocals = 7 := hml0
  have hown : s.vm.findClass "com/example/packet_radio_link/packetradiolink/frame/AddressEqualsPinLaw" = some m.cls := findClass_of_methodNamed Bd.named
  have hnm := (name_of_methodNamed Bd.named Bd.method).1
  have X0 : Stand p l e ({ frames := 4, cells := 3, slots := 16, locals := 66 } : Room) s m #[(.int c0), (.int c1), (.int c2), (.int c3), (.int c4), (.int c5), (.int (Int32.ofNat nn))] below meth c s₁ [] 0 0 := Stand.of_body Bd
  have e0 : s₁.heap = h0 := by rw [← hh, Bd.state]; rfl
  have N0 := Fr.nil n0
  have pre0 : ∀ t, Steps p.tables e below (s₁.setTop (mkF m 0 #[.val (.int c0), .val (.int c1), .val (.int c2), .val (.int c3), .val (.int c4), .val (.int c5), .val (.int (Int32.ofNat nn))] [])) t → Steps p.tables e below (s₁.setTop (entryFrame m #[(.int c0), (.int c1), (.int c2), (.int c3), (.int c4), (.int c5), (.int (Int32.ofNat nn))] 7)) t := fun t k => castTop (ef_rm2 m c0 c1 c2 c3 c4 c5 (Int32.ofNat nn)) k
  have pre1 : ∀ t, Steps p.tables e below (s₁.setTop (mkF m 3 #[.val (.int c0), .val (.int c1), .val (.int c2), .val (.int c3), .val (.int c4), .val (.int c5), .val (.int (Int32.ofNat nn))] [(.int (1 : Int32)), (.int (Int32.ofNat nn))])) t → Steps p.tables e below (s₁.setTop (entryFrame m #[(.int c0), (.int c1), (.int c2), (.int c3), (.int c4), (.int c5), (.int (Int32.ofNat nn))] 7)) t := by
    intro t kt
    refine pre0 t ?_
    show Steps p.tables e below (s₁.setTop (mkF m 0 #[.val (.int c0), .val (.int c1), .val (.int c2), .val (.int c3), .val (.int c4), .val (.int c5), .val (.int (Int32.ofNat nn))] [])) _
    refine XS.iload X0.here hx rfl (hb hby d2_0) rfl ?_
    show Steps p.tables e below (s₁.setTop (mkF m 2 #[.val (.int c0), .val (.int c1), .val (.int c2), .val (.int c3), .val (.int c4), .val (.int c5), .val (.int (Int32.ofNat nn))] [(.int (Int32.ofNat nn))])) _
    refine XS.iconst X0.here hx rfl (hb hby d2_2) ?_
    exact kt
  by_cases hc2 : (Int32.ofNat nn) = (1 : Int32)
  ·
    obtain ⟨T3, h3, X3, e3, E3, A3, D3, -, st3⟩ := newO X0 hx hZ hown (hw _ (List.mem_of_getElem? (i := 9) rfl)) (hw _ (List.mem_of_getElem? (i := 10) rfl)) (hw _ (List.mem_of_getElem? (i := 11) rfl)) e0 (g := (mkF m 6 #[.val (.int c0), .val (.int c1), .val (.int c2), .val (.int c3), .val (.int c4), .val (.int c5), .val (.int (Int32.ofNat nn))] [])) rfl (hb hby d2_6) (by decide) (by decide)
    obtain ⟨b3, g3⟩ : ∃ z, z = h0.size := ⟨_, rfl⟩
    rw [← g3] at A3 D3 st3
    have g_b3 : n0 ≤ b3 := Nat.le_trans Z0 (Nat.le_of_eq g3.symm)
    have sz_b3 : h0.size ≤ b3 := Nat.le_trans (Keep.refl h0 []).1 (Nat.le_of_eq g3.symm)
    have Z3 : n0 ≤ h3.size := Nat.le_trans Z0 E3.1
    have K3 : Keep h0 h3 [] := (Keep.refl h0 []).ext E3
    have F3_coder : Fld Z h3 b3 "java/lang/String" "coder" "B" (.int (0 : Int32)) := D3 (Or.inr (hw _ (List.mem_of_getElem? (i := 36) rfl))) (ty := .byte) (by decide)
    have F3_value : Fld Z h3 b3 "java/lang/String" "value" "[B" .null := D3 (Or.inr (hw _ (List.mem_of_getElem? (i := 38) rfl))) (ty := (.array .byte)) (by decide)
    obtain ⟨T4, h4, k4, X4, e4, E4, A4, st4⟩ := newP X3 hx hZ (hw _ (List.mem_of_getElem? (i := 12) rfl)) e3 (g := (mkF m 11 #[.val (.int c0), .val (.int c1), .val (.int c2), .val (.int c3), .val (.int c4), .val (.int c5), .val (.int (Int32.ofNat nn))] [(.int (1 : Int32)), (.ref b3), (.ref b3)])) rfl (hb hby d2_11) rfl (by decide) (cap := 1) (by decide) (by decide) (by decide) (by decide)
    obtain ⟨b4, g4⟩ : ∃ z, z = h3.size := ⟨_, rfl⟩
    rw [← g4] at A4 st4
    have ne5 : b3 ≠ b4 := Nat.ne_of_lt (Nat.lt_of_lt_of_le A3.lt (Nat.le_of_eq g4.symm))
    have c6 : Exa Z h4 b3 "java/lang/String" := A3.ext E4
    have c7 : Fld Z h4 b3 "java/lang/String" "coder" "B" (.int (0 : Int32)) := F3_coder.ext E4
    have c8 : Fld Z h4 b3 "java/lang/String" "value" "[B" .null := F3_value.ext E4
    have g_b4 : n0 ≤ b4 := Nat.le_trans Z3 (Nat.le_of_eq g4.symm)
    have sz_b4 : h0.size ≤ b4 := Nat.le_trans K3.1 (Nat.le_of_eq g4.symm)
    have Z4 : n0 ≤ h4.size := Nat.le_trans Z3 E4.1
    have K4 : Keep h0 h4 [] := K3.ext E4
    have V4 : Arv Z h4 b4 k4 .char (1 : Int32) [(.int (0 : Int32))] (.int (0 : Int32)) := (Arv.new A4 (by decide)).pad (pad_rep [] (.int (0 : Int32)) 1)
    obtain ⟨cl9, Ar9, q9, S9, NN9, HH9, GG9⟩ := id V4
    have hin9 : ¬ ((0 : Int32) < 0 ∨ cl9.slots.size ≤ ((0 : Int32)).toNatClampNeg) := inb_of S9 ⟨by decide, by decide⟩
    obtain ⟨T10, h10, X10, e10, W10, st10⟩ := stC X4 hx hZ e4 Ar9 (j := (0 : Int32)) hin9  (g := (mkF m 16 #[.val (.int c0), .val (.int c1), .val (.int c2), .val (.int c3), .val (.int c4), .val (.int c5), .val (.int (Int32.ofNat nn))] [(.int c0), (.int (0 : Int32)), (.ref b4), (.ref b4), (.ref b3), (.ref b3)])) rfl rfl (hb hby d2_16)
    have V10 : Arv Z h10 b4 k4 .char (1 : Int32) [(.int (nar .char c0))] (.int (0 : Int32)) := (Arv.set Ar9 q9 S9 NN9 HH9 GG9 (fits_nar_char _) W10 0 rfl (Nat.le_of_ble_eq_true rfl))
    have c11 : Exa Z h10 b3 "java/lang/String" := c6.wr W10
    have c12 : Fld Z h10 b3 "java/lang/String" "coder" "B" (.int (0 : Int32)) := c7.other W10 (Or.inl ne5)
    have c13 : Fld Z h10 b3 "java/lang/String" "value" "[B" .null := c8.other W10 (Or.inl ne5)
    have Z10 : n0 ≤ h10.size := Nat.le_trans Z4 (Keep.of_wr W10).1
    have N10 := Fr.snoc X10 N0 g_b4
    have K10 : Keep h0 h10 [] := K4.wr W10 (Or.inr sz_b4)
    have hws14 : ∀ d ∈ StrChars.Road.words, d.before a0 Z = true := fun d hd => hw d ((by decide +kernel : ∀ d ∈ StrChars.Road.words, d ∈ tables_1) d hd)
    have hp14 : ∀ c ∈ ([(nar .char c0)] : List Int32), ¬ c < 0 ∧ ¬ (255 : Int32) < c := fun c hc => ho c (List.mem_of_mem_take (i := 1) hc)
    obtain ⟨_, _, ⟨T14, L14, k14, n14⟩, -, X14, ⟨Lc14, hQ14, l14, y14, z14⟩, st14⟩ := X10.specialBack hx (y := (⟨"java/lang/String", "<init>", "([C)V"⟩ : MethodName)) rfl hown (mvT hZ (hw _ (List.mem_of_getElem? (i := 13) rfl))) (mvT hZ (hw _ (List.mem_of_getElem? (i := 14) rfl))) (mvT hZ (hw _ (List.mem_of_getElem? (i := 15) rfl))) (by decide) (StrChars.Road.backV (W := 1) hZ hws14 (kI := 4) (hw _ (List.mem_of_getElem? (i := 10) rfl)) (cs := ([(nar .char c0)] : List Int32)) (bs := (([(nar .char c0)] : List Int32)).map (fun c => c.toInt8.toInt32)) (n := 1) g_b3 Z10 c11 c13 c12 V10 (own_sta_keep S_cs K10) hcs rfl rfl (by decide) (by decide) hp14 rfl (by decide) (by decide)) (g := (mkF m 17 #[.val (.int c0), .val (.int c1), .val (.int c2), .val (.int c3), .val (.int c4), .val (.int c5), .val (.int (Int32.ofNat nn))] [(.ref b4), (.ref b3), (.ref b3)])) rfl (by rw [hml]; rfl) (Steps.refl _) (a := b3) (argsL := [(.ref b4)]) (rest := [(.ref b3)]) (lenOf pd_0 rfl) rfl (by show 2 * 0 + _ ≤ _; exact Nat.le_of_eq rfl) (hb hby d2_17) (fun _ _ => ⟨rfl, e10, (by decide : 2 + 1 ≤ _), (by decide : 5 + 1 ≤ _)⟩)
    dsimp only [Pt.U, Pt.locs, Pt.cells, Pt.slots] at X14 l14 y14 z14 st14 hQ14
    subst l14 y14 z14
    obtain ⟨rfl, N14q, K14q, f14_0, f14_1, t14, kb14, gt14, szt14, nt14, fv14, fb14⟩ := hQ14
    have N14 := Fr.app N10 N14q
    have Z14 : n0 ≤ T14.heap.size := Nat.le_trans Z10 K14q.1
    have c15 : Exa Z T14.heap b3 "java/lang/String" := c11.keep K14q
    have c16 : Arv Z T14.heap b4 k4 .char (1 : Int32) [(.int (nar .char c0))] (.int (0 : Int32)) := V10.keep K14q (ninS (Ne.symm ne5) nin0)
    have K14 : Keep h0 T14.heap [] := K10.trans K14q (allS (Or.inr sz_b3) all0)
    have sz_t14 : h0.size ≤ t14 := Nat.le_trans K10.1 szt14
    obtain ⟨fs, hr, hrun, hended, hW, hsame⟩ := X14.leave (v := some (.ref b3)) (fun h => by rw [Bd.returns] at h; cases h) (hlocks := BodyLoose.notSynchronized Bd)
    refine ⟨_, _, pre1 _ ?_, hrun, hended, _, _, rfl, ?_, ⟨_, rfl⟩, hW, hsame.mono (by decide) (by decide)⟩
    ·
      show Steps p.tables e below (s₁.setTop (mkF m 3 #[.val (.int c0), .val (.int c1), .val (.int c2), .val (.int c3), .val (.int c4), .val (.int c5), .val (.int (Int32.ofNat nn))] [(.int (1 : Int32)), (.int (Int32.ofNat nn))])) _
      refine XS.icmpNo X0.here hx rfl (hb hby d2_3) rfl (teq (hc2 : (Int32.ofNat nn) = (1 : Int32))).2 ?_
      show Steps p.tables e below (s₁.setTop (mkF m 6 #[.val (.int c0), .val (.int c1), .val (.int c2), .val (.int c3), .val (.int c4), .val (.int c5), .val (.int (Int32.ofNat nn))] [])) _
      refine st3 _ ?_
      show Steps p.tables e below (T3.setTop (mkF m 9 #[.val (.int c0), .val (.int c1), .val (.int c2), .val (.int c3), .val (.int c4), .val (.int c5), .val (.int (Int32.ofNat nn))] [(.ref b3)])) _
      refine XS.dup X3.here hx rfl (hb hby d2_9) rfl rfl ?_
      show Steps p.tables e below (T3.setTop (mkF m 10 #[.val (.int c0), .val (.int c1), .val (.int c2), .val (.int c3), .val (.int c4), .val (.int c5), .val (.int (Int32.ofNat nn))] [(.ref b3), (.ref b3)])) _
      refine XS.iconst X3.here hx rfl (hb hby d2_10) ?_
      show Steps p.tables e below (T3.setTop (mkF m 11 #[.val (.int c0), .val (.int c1), .val (.int c2), .val (.int c3), .val (.int c4), .val (.int c5), .val (.int (Int32.ofNat nn))] [(.int (1 : Int32)), (.ref b3), (.ref b3)])) _
      refine st4 _ ?_
      show Steps p.tables e below (T4.setTop (mkF m 13 #[.val (.int c0), .val (.int c1), .val (.int c2), .val (.int c3), .val (.int c4), .val (.int c5), .val (.int (Int32.ofNat nn))] [(.ref b4), (.ref b3), (.ref b3)])) _
      refine XS.dup X4.here hx rfl (hb hby d2_13) rfl rfl ?_
      show Steps p.tables e below (T4.setTop (mkF m 14 #[.val (.int c0), .val (.int c1), .val (.int c2), .val (.int c3), .val (.int c4), .val (.int c5), .val (.int (Int32.ofNat nn))] [(.ref b4), (.ref b4), (.ref b3), (.ref b3)])) _
      refine XS.iconst X4.here hx rfl (hb hby d2_14) ?_
      show Steps p.tables e below (T4.setTop (mkF m 15 #[.val (.int c0), .val (.int c1), .val (.int c2), .val (.int c3), .val (.int c4), .val (.int c5), .val (.int (Int32.ofNat nn))] [(.int (0 : Int32)), (.ref b4), (.ref b4), (.ref b3), (.ref b3)])) _
      refine XS.iloadN X4.here hx rfl (hb hby d2_15) rfl ?_
      show Steps p.tables e below (T4.setTop (mkF m 16 #[.val (.int c0), .val (.int c1), .val (.int c2), .val (.int c3), .val (.int c4), .val (.int c5), .val (.int (Int32.ofNat nn))] [(.int c0), (.int (0 : Int32)), (.ref b4), (.ref b4), (.ref b3), (.ref b3)])) _
      refine st10 _ ?_
      show Steps p.tables e below (T10.setTop (mkF m 17 #[.val (.int c0), .val (.int c1), .val (.int c2), .val (.int c3), .val (.int c4), .val (.int c5), .val (.int (Int32.ofNat nn))] [(.ref b4), (.ref b3), (.ref b3)])) _
      refine st14.trans ?_
      show Steps p.tables e below (T14.setTop (mkF m 20 #[.val (.int c0), .val (.int c1), .val (.int c2), .val (.int c3), .val (.int c4), .val (.int c5), .val (.int (Int32.ofNat nn))] [(.ref b3)])) _
      exact retOut X14 hx (t := (.object "java/lang/String")) (i := .areturn) Bd.returns rfl (Or.inr (Or.inr (Or.inr (Or.inr ⟨rfl, rfl, rfl⟩)))) (hb hby d2_20) hr
    ·
      show Q2 Z c0 c1 c2 c3 c4 c5 nn vz h0 n0 _ T14.heap _
      exact ⟨(by
      obtain rfl : nn = 1 := (own_eq32 (j := 1) (by omega) (by omega)).mp hc2
      exact ⟨b3, t14, kb14, rfl, sz_b3, sz_t14, nt14, f14_0, f14_1, fv14, fb14⟩), N14, K14⟩
  ·
    have pre17 : ∀ t, Steps p.tables e below (s₁.setTop (mkF m 24 #[.val (.int c0), .val (.int c1), .val (.int c2), .val (.int c3), .val (.int c4), .val (.int c5), .val (.int (Int32.ofNat nn))] [(.int (2 : Int32)), (.int (Int32.ofNat nn))])) t → Steps p.tables e below (s₁.setTop (entryFrame m #[(.int c0), (.int c1), (.int c2), (.int c3), (.int c4), (.int c5), (.int (Int32.ofNat nn))] 7)) t := by
      intro t kt
      refine pre1 t ?_
      show Steps p.tables e below (s₁.setTop (mkF m 3 #[.val (.int c0), .val (.int c1), .val (.int c2), .val (.int c3), .val (.int c4), .val (.int c5), .val (.int (Int32.ofNat nn))] [(.int (1 : Int32)), (.int (Int32.ofNat nn))])) _
      refine XS.icmpYes X0.here hx rfl (pc0 := 3) (pc' := 21) rfl (hb hby d2_3) rfl (feq (hc2 : ¬ ((Int32.ofNat nn) = (1 : Int32)))).2 (by decide) (by decide) ?_
      show Steps p.tables e below (s₁.setTop (mkF m 21 #[.val (.int c0), .val (.int c1), .val (.int c2), .val (.int c3), .val (.int c4), .val (.int c5), .val (.int (Int32.ofNat nn))] [])) _
      refine XS.iload X0.here hx rfl (hb hby d2_21) rfl ?_
      show Steps p.tables e below (s₁.setTop (mkF m 23 #[.val (.int c0), .val (.int c1), .val (.int c2), .val (.int c3), .val (.int c4), .val (.int c5), .val (.int (Int32.ofNat nn))] [(.int (Int32.ofNat nn))])) _
      refine XS.iconst X0.here hx rfl (hb hby d2_23) ?_
      exact kt
    by_cases hc18 : (Int32.ofNat nn) = (2 : Int32)
    ·
      obtain ⟨T19, h19, X19, e19, E19, A19, D19, -, st19⟩ := newO X0 hx hZ hown (hw _ (List.mem_of_getElem? (i := 9) rfl)) (hw _ (List.mem_of_getElem? (i := 10) rfl)) (hw _ (List.mem_of_getElem? (i := 11) rfl)) e0 (g := (mkF m 27 #[.val (.int c0), .val (.int c1), .val (.int c2), .val (.int c3), .val (.int c4), .val (.int c5), .val (.int (Int32.ofNat nn))] [])) rfl (hb hby d2_27) (by decide) (by decide)
      obtain ⟨b19, g19⟩ : ∃ z, z = h0.size := ⟨_, rfl⟩
      rw [← g19] at A19 D19 st19
      have g_b19 : n0 ≤ b19 := Nat.le_trans Z0 (Nat.le_of_eq g19.symm)
      have sz_b19 : h0.size ≤ b19 := Nat.le_trans (Keep.refl h0 []).1 (Nat.le_of_eq g19.symm)
      have Z19 : n0 ≤ h19.size := Nat.le_trans Z0 E19.1
      have K19 : Keep h0 h19 [] := (Keep.refl h0 []).ext E19
      have F19_coder : Fld Z h19 b19 "java/lang/String" "coder" "B" (.int (0 : Int32)) := D19 (Or.inr (hw _ (List.mem_of_getElem? (i := 36) rfl))) (ty := .byte) (by decide)
      have F19_value : Fld Z h19 b19 "java/lang/String" "value" "[B" .null := D19 (Or.inr (hw _ (List.mem_of_getElem? (i := 38) rfl))) (ty := (.array .byte)) (by decide)
      obtain ⟨T20, h20, k20, X20, e20, E20, A20, st20⟩ := newP X19 hx hZ (hw _ (List.mem_of_getElem? (i := 12) rfl)) e19 (g := (mkF m 32 #[.val (.int c0), .val (.int c1), .val (.int c2), .val (.int c3), .val (.int c4), .val (.int c5), .val (.int (Int32.ofNat nn))] [(.int (2 : Int32)), (.ref b19), (.ref b19)])) rfl (hb hby d2_32) rfl (by decide) (cap := 2) (by decide) (by decide) (by decide) (by decide)
      obtain ⟨b20, g20⟩ : ∃ z, z = h19.size := ⟨_, rfl⟩
      rw [← g20] at A20 st20
      have ne21 : b19 ≠ b20 := Nat.ne_of_lt (Nat.lt_of_lt_of_le A19.lt (Nat.le_of_eq g20.symm))
      have c22 : Exa Z h20 b19 "java/lang/String" := A19.ext E20
      have c23 : Fld Z h20 b19 "java/lang/String" "coder" "B" (.int (0 : Int32)) := F19_coder.ext E20
      have c24 : Fld Z h20 b19 "java/lang/String" "value" "[B" .null := F19_value.ext E20
      have g_b20 : n0 ≤ b20 := Nat.le_trans Z19 (Nat.le_of_eq g20.symm)
      have sz_b20 : h0.size ≤ b20 := Nat.le_trans K19.1 (Nat.le_of_eq g20.symm)
      have Z20 : n0 ≤ h20.size := Nat.le_trans Z19 E20.1
      have K20 : Keep h0 h20 [] := K19.ext E20
      have V20 : Arv Z h20 b20 k20 .char (2 : Int32) [(.int (0 : Int32)), (.int (0 : Int32))] (.int (0 : Int32)) := (Arv.new A20 (by decide)).pad (pad_rep [] (.int (0 : Int32)) 2)
      obtain ⟨cl25, Ar25, q25, S25, NN25, HH25, GG25⟩ := id V20
      have hin25 : ¬ ((0 : Int32) < 0 ∨ cl25.slots.size ≤ ((0 : Int32)).toNatClampNeg) := inb_of S25 ⟨by decide, by decide⟩
      obtain ⟨T26, h26, X26, e26, W26, st26⟩ := stC X20 hx hZ e20 Ar25 (j := (0 : Int32)) hin25  (g := (mkF m 37 #[.val (.int c0), .val (.int c1), .val (.int c2), .val (.int c3), .val (.int c4), .val (.int c5), .val (.int (Int32.ofNat nn))] [(.int c0), (.int (0 : Int32)), (.ref b20), (.ref b20), (.ref b19), (.ref b19)])) rfl rfl (hb hby d2_37)
      have V26 : Arv Z h26 b20 k20 .char (2 : Int32) [(.int (nar .char c0)), (.int (0 : Int32))] (.int (0 : Int32)) := (Arv.set Ar25 q25 S25 NN25 HH25 GG25 (fits_nar_char _) W26 0 rfl (Nat.le_of_ble_eq_true rfl))
      have c27 : Exa Z h26 b19 "java/lang/String" := c22.wr W26
      have c28 : Fld Z h26 b19 "java/lang/String" "coder" "B" (.int (0 : Int32)) := c23.other W26 (Or.inl ne21)
      have c29 : Fld Z h26 b19 "java/lang/String" "value" "[B" .null := c24.other W26 (Or.inl ne21)
      have Z26 : n0 ≤ h26.size := Nat.le_trans Z20 (Keep.of_wr W26).1
      have N26 := Fr.snoc X26 N0 g_b20
      have K26 : Keep h0 h26 [] := K20.wr W26 (Or.inr sz_b20)
      obtain ⟨cl30, Ar30, q30, S30, NN30, HH30, GG30⟩ := id V26
      have hin30 : ¬ ((1 : Int32) < 0 ∨ cl30.slots.size ≤ ((1 : Int32)).toNatClampNeg) := inb_of S30 ⟨by decide, by decide⟩
      obtain ⟨T31, h31, X31, e31, W31, st31⟩ := stC X26 hx hZ e26 Ar30 (j := (1 : Int32)) hin30  (g := (mkF m 41 #[.val (.int c0), .val (.int c1), .val (.int c2), .val (.int c3), .val (.int c4), .val (.int c5), .val (.int (Int32.ofNat nn))] [(.int c1), (.int (1 : Int32)), (.ref b20), (.ref b20), (.ref b19), (.ref b19)])) rfl rfl (hb hby d2_41)
      have V31 : Arv Z h31 b20 k20 .char (2 : Int32) [(.int (nar .char c0)), (.int (nar .char c1))] (.int (0 : Int32)) := (Arv.set Ar30 q30 S30 NN30 HH30 GG30 (fits_nar_char _) W31 1 rfl (Nat.le_of_ble_eq_true rfl))
      have c32 : Exa Z h31 b19 "java/lang/String" := c27.wr W31
      have c33 : Fld Z h31 b19 "java/lang/String" "coder" "B" (.int (0 : Int32)) := c28.other W31 (Or.inl ne21)
      have c34 : Fld Z h31 b19 "java/lang/String" "value" "[B" .null := c29.other W31 (Or.inl ne21)
      have Z31 : n0 ≤ h31.size := Nat.le_trans Z26 (Keep.of_wr W31).1
      have N31 := Fr.snoc X31 N26 g_b20
      have K31 : Keep h0 h31 [] := K26.wr W31 (Or.inr sz_b20)
      have hws35 : ∀ d ∈ StrChars.Road.words, d.before a0 Z = true := fun d hd => hw d ((by decide +kernel : ∀ d ∈ StrChars.Road.words, d ∈ tables_1) d hd)
      have hp35 : ∀ c ∈ ([(nar .char c0), (nar .char c1)] : List Int32), ¬ c < 0 ∧ ¬ (255 : Int32) < c := fun c hc => ho c (List.mem_of_mem_take (i := 2) hc)
      obtain ⟨_, _, ⟨T35, L35, k35, n35⟩, -, X35, ⟨Lc35, hQ35, l35, y35, z35⟩, st35⟩ := X31.specialBack hx (y := (⟨"java/lang/String", "<init>", "([C)V"⟩ : MethodName)) rfl hown (mvT hZ (hw _ (List.mem_of_getElem? (i := 13) rfl))) (mvT hZ (hw _ (List.mem_of_getElem? (i := 14) rfl))) (mvT hZ (hw _ (List.mem_of_getElem? (i := 15) rfl))) (by decide) (StrChars.Road.backV (W := 1) hZ hws35 (kI := 4) (hw _ (List.mem_of_getElem? (i := 10) rfl)) (cs := ([(nar .char c0), (nar .char c1)] : List Int32)) (bs := (([(nar .char c0), (nar .char c1)] : List Int32)).map (fun c => c.toInt8.toInt32)) (n := 2) g_b19 Z31 c32 c34 c33 V31 (own_sta_keep S_cs K31) hcs rfl rfl (by decide) (by decide) hp35 rfl (by decide) (by decide)) (g := (mkF m 42 #[.val (.int c0), .val (.int c1), .val (.int c2), .val (.int c3), .val (.int c4), .val (.int c5), .val (.int (Int32.ofNat nn))] [(.ref b20), (.ref b19), (.ref b19)])) rfl (by rw [hml]; rfl) (Steps.refl _) (a := b19) (argsL := [(.ref b20)]) (rest := [(.ref b19)]) (lenOf pd_0 rfl) rfl (by show 2 * 0 + _ ≤ _; exact Nat.le_of_eq rfl) (hb hby d2_42) (fun _ _ => ⟨rfl, e31, (by decide : 2 + 1 ≤ _), (by decide : 6 + 2 ≤ _)⟩)
      dsimp only [Pt.U, Pt.locs, Pt.cells, Pt.slots] at X35 l35 y35 z35 st35 hQ35
      subst l35 y35 z35
      obtain ⟨rfl, N35q, K35q, f35_0, f35_1, t35, kb35, gt35, szt35, nt35, fv35, fb35⟩ := hQ35
      have N35 := Fr.app N31 N35q
      have Z35 : n0 ≤ T35.heap.size := Nat.le_trans Z31 K35q.1
      have c36 : Exa Z T35.heap b19 "java/lang/String" := c32.keep K35q
      have c37 : Arv Z T35.heap b20 k20 .char (2 : Int32) [(.int (nar .char c0)), (.int (nar .char c1))] (.int (0 : Int32)) := V31.keep K35q (ninS (Ne.symm ne21) nin0)
      have K35 : Keep h0 T35.heap [] := K31.trans K35q (allS (Or.inr sz_b19) all0)
      have sz_t35 : h0.size ≤ t35 := Nat.le_trans K31.1 szt35
      obtain ⟨fs, hr, hrun, hended, hW, hsame⟩ := X35.leave (v := some (.ref b19)) (fun h => by rw [Bd.returns] at h; cases h) (hlocks := BodyLoose.notSynchronized Bd)
      refine ⟨_, _, pre17 _ ?_, hrun, hended, _, _, rfl, ?_, ⟨_, rfl⟩, hW, hsame.mono (by decide) (by decide)⟩
      ·
        show Steps p.tables e below (s₁.setTop (mkF m 24 #[.val (.int c0), .val (.int c1), .val (.int c2), .val (.int c3), .val (.int c4), .val (.int c5), .val (.int (Int32.ofNat nn))] [(.int (2 : Int32)), (.int (Int32.ofNat nn))])) _
        refine XS.icmpNo X0.here hx rfl (hb hby d2_24) rfl (teq (hc18 : (Int32.ofNat nn) = (2 : Int32))).2 ?_
        show Steps p.tables e below (s₁.setTop (mkF m 27 #[.val (.int c0), .val (.int c1), .val (.int c2), .val (.int c3), .val (.int c4), .val (.int c5), .val (.int (Int32.ofNat nn))] [])) _
        refine st19 _ ?_
        show Steps p.tables e below (T19.setTop (mkF m 30 #[.val (.int c0), .val (.int c1), .val (.int c2), .val (.int c3), .val (.int c4), .val (.int c5), .val (.int (Int32.ofNat nn))] [(.ref b19)])) _
        refine XS.dup X19.here hx rfl (hb hby d2_30) rfl rfl ?_
        show Steps p.tables e below (T19.setTop (mkF m 31 #[.val (.int c0), .val (.int c1), .val (.int c2), .val (.int c3), .val (.int c4), .val (.int c5), .val (.int (Int32.ofNat nn))] [(.ref b19), (.ref b19)])) _
        refine XS.iconst X19.here hx rfl (hb hby d2_31) ?_
        show Steps p.tables e below (T19.setTop (mkF m 32 #[.val (.int c0), .val (.int c1), .val (.int c2), .val (.int c3), .val (.int c4), .val (.int c5), .val (.int (Int32.ofNat nn))] [(.int (2 : Int32)), (.ref b19), (.ref b19)])) _
        refine st20 _ ?_
        show Steps p.tables e below (T20.setTop (mkF m 34 #[.val (.int c0), .val (.int c1), .val (.int c2), .val (.int c3), .val (.int c4), .val (.int c5), .val (.int (Int32.ofNat nn))] [(.ref b20), (.ref b19), (.ref b19)])) _
        refine XS.dup X20.here hx rfl (hb hby d2_34) rfl rfl ?_
        show Steps p.tables e below (T20.setTop (mkF m 35 #[.val (.int c0), .val (.int c1), .val (.int c2), .val (.int c3), .val (.int c4), .val (.int c5), .val (.int (Int32.ofNat nn))] [(.ref b20), (.ref b20), (.ref b19), (.ref b19)])) _
        refine XS.iconst X20.here hx rfl (hb hby d2_35) ?_
        show Steps p.tables e below (T20.setTop (mkF m 36 #[.val (.int c0), .val (.int c1), .val (.int c2), .val (.int c3), .val (.int c4), .val (.int c5), .val (.int (Int32.ofNat nn))] [(.int (0 : Int32)), (.ref b20), (.ref b20), (.ref b19), (.ref b19)])) _
        refine XS.iloadN X20.here hx rfl (hb hby d2_36) rfl ?_
        show Steps p.tables e below (T20.setTop (mkF m 37 #[.val (.int c0), .val (.int c1), .val (.int c2), .val (.int c3), .val (.int c4), .val (.int c5), .val (.int (Int32.ofNat nn))] [(.int c0), (.int (0 : Int32)), (.ref b20), (.ref b20), (.ref b19), (.ref b19)])) _
        refine st26 _ ?_
        show Steps p.tables e below (T26.setTop (mkF m 38 #[.val (.int c0), .val (.int c1), .val (.int c2), .val (.int c3), .val (.int c4), .val (.int c5), .val (.int (Int32.ofNat nn))] [(.ref b20), (.ref b19), (.ref b19)])) _
        refine XS.dup X26.here hx rfl (hb hby d2_38) rfl rfl ?_
        show Steps p.tables e below (T26.setTop (mkF m 39 #[.val (.int c0), .val (.int c1), .val (.int c2), .val (.int c3), .val (.int c4), .val (.int c5), .val (.int (Int32.ofNat nn))] [(.ref b20), (.ref b20), (.ref b19), (.ref b19)])) _
        refine XS.iconst X26.here hx rfl (hb hby d2_39) ?_
        show Steps p.tables e below (T26.setTop (mkF m 40 #[.val (.int c0), .val (.int c1), .val (.int c2), .val (.int c3), .val (.int c4), .val (.int c5), .val (.int (Int32.ofNat nn))] [(.int (1 : Int32)), (.ref b20), (.ref b20), (.ref b19), (.ref b19)])) _
        refine XS.iloadN X26.here hx rfl (hb hby d2_40) rfl ?_
        show Steps p.tables e below (T26.setTop (mkF m 41 #[.val (.int c0), .val (.int c1), .val (.int c2), .val (.int c3), .val (.int c4), .val (.int c5), .val (.int (Int32.ofNat nn))] [(.int c1), (.int (1 : Int32)), (.ref b20), (.ref b20), (.ref b19), (.ref b19)])) _
        refine st31 _ ?_
        show Steps p.tables e below (T31.setTop (mkF m 42 #[.val (.int c0), .val (.int c1), .val (.int c2), .val (.int c3), .val (.int c4), .val (.int c5), .val (.int (Int32.ofNat nn))] [(.ref b20), (.ref b19), (.ref b19)])) _
        refine st35.trans ?_
        show Steps p.tables e below (T35.setTop (mkF m 45 #[.val (.int c0), .val (.int c1), .val (.int c2), .val (.int c3), .val (.int c4), .val (.int c5), .val (.int (Int32.ofNat nn))] [(.ref b19)])) _
        exact retOut X35 hx (t := (.object "java/lang/String")) (i := .areturn) Bd.returns rfl (Or.inr (Or.inr (Or.inr (Or.inr ⟨rfl, rfl, rfl⟩)))) (hb hby d2_45) hr
      ·
        show Q2 Z c0 c1 c2 c3 c4 c5 nn vz h0 n0 _ T35.heap _
        exact ⟨(by
      obtain rfl : nn = 2 := (own_eq32 (j := 2) (by omega) (by omega)).mp hc18
      exact ⟨b19, t35, kb35, rfl, sz_b19, sz_t35, nt35, f35_0, f35_1, fv35, fb35⟩), N35, K35⟩
    ·
      have pre38 : ∀ t, Steps p.tables e below (s₁.setTop (mkF m 49 #[.val (.int c0), .val (.int c1), .val (.int c2), .val (.int c3), .val (.int c4), .val (.int c5), .val (.int (Int32.ofNat nn))] [(.int (3 : Int32)), (.int (Int32.ofNat nn))])) t → Steps p.tables e below (s₁.setTop (entryFrame m #[(.int c0), (.int c1), (.int c2), (.int c3), (.int c4), (.int c5), (.int (Int32.ofNat nn))] 7)) t := by
        intro t kt
        refine pre17 t ?_
        show Steps p.tables e below (s₁.setTop (mkF m 24 #[.val (.int c0), .val (.int c1), .val (.int c2), .val (.int c3), .val (.int c4), .val (.int c5), .val (.int (Int32.ofNat nn))] [(.int (2 : Int32)), (.int (Int32.ofNat nn))])) _
        refine XS.icmpYes X0.here hx rfl (pc0 := 24) (pc' := 46) rfl (hb hby d2_24) rfl (feq (hc18 : ¬ ((Int32.ofNat nn) = (2 : Int32)))).2 (by decide) (by decide) ?_
        show Steps p.tables e below (s₁.setTop (mkF m 46 #[.val (.int c0), .val (.int c1), .val (.int c2), .val (.int c3), .val (.int c4), .val (.int c5), .val (.int (Int32.ofNat nn))] [])) _
        refine XS.iload X0.here hx rfl (hb hby d2_46) rfl ?_
        show Steps p.tables e below (s₁.setTop (mkF m 48 #[.val (.int c0), .val (.int c1), .val (.int c2), .val (.int c3), .val (.int c4), .val (.int c5), .val (.int (Int32.ofNat nn))] [(.int (Int32.ofNat nn))])) _
        refine XS.iconst X0.here hx rfl (hb hby d2_48) ?_
        exact kt
      by_cases hc39 : (Int32.ofNat nn) = (3 : Int32)
      ·
        obtain ⟨T40, h40, X40, e40, E40, A40, D40, -, st40⟩ := newO X0 hx hZ hown (hw _ (List.mem_of_getElem? (i := 9) rfl)) (hw _ (List.mem_of_getElem? (i := 10) rfl)) (hw _ (List.mem_of_getElem? (i := 11) rfl)) e0 (g := (mkF m 52 #[.val (.int c0), .val (.int c1), .val (.int c2), .val (.int c3), .val (.int c4), .val (.int c5), .val (.int (Int32.ofNat nn))] [])) rfl (hb hby d2_52) (by decide) (by decide)
        obtain ⟨b40, g40⟩ : ∃ z, z = h0.size := ⟨_, rfl⟩
        rw [← g40] at A40 D40 st40
        have g_b40 : n0 ≤ b40 := Nat.le_trans Z0 (Nat.le_of_eq g40.symm)
        have sz_b40 : h0.size ≤ b40 := Nat.le_trans (Keep.refl h0 []).1 (Nat.le_of_eq g40.symm)
        have Z40 : n0 ≤ h40.size := Nat.le_trans Z0 E40.1
        have K40 : Keep h0 h40 [] := (Keep.refl h0 []).ext E40
        have F40_coder : Fld Z h40 b40 "java/lang/String" "coder" "B" (.int (0 : Int32)) := D40 (Or.inr (hw _ (List.mem_of_getElem? (i := 36) rfl))) (ty := .byte) (by decide)
        have F40_value : Fld Z h40 b40 "java/lang/String" "value" "[B" .null := D40 (Or.inr (hw _ (List.mem_of_getElem? (i := 38) rfl))) (ty := (.array .byte)) (by decide)
        obtain ⟨T41, h41, k41, X41, e41, E41, A41, st41⟩ := newP X40 hx hZ (hw _ (List.mem_of_getElem? (i := 12) rfl)) e40 (g := (mkF m 57 #[.val (.int c0), .val (.int c1), .val (.int c2), .val (.int c3), .val (.int c4), .val (.int c5), .val (.int (Int32.ofNat nn))] [(.int (3 : Int32)), (.ref b40), (.ref b40)])) rfl (hb hby d2_57) rfl (by decide) (cap := 3) (by decide) (by decide) (by decide) (by decide)
        obtain ⟨b41, g41⟩ : ∃ z, z = h40.size := ⟨_, rfl⟩
        rw [← g41] at A41 st41
        have ne42 : b40 ≠ b41 := Nat.ne_of_lt (Nat.lt_of_lt_of_le A40.lt (Nat.le_of_eq g41.symm))
        have c43 : Exa Z h41 b40 "java/lang/String" := A40.ext E41
        have c44 : Fld Z h41 b40 "java/lang/String" "coder" "B" (.int (0 : Int32)) := F40_coder.ext E41
        have c45 : Fld Z h41 b40 "java/lang/String" "value" "[B" .null := F40_value.ext E41
        have g_b41 : n0 ≤ b41 := Nat.le_trans Z40 (Nat.le_of_eq g41.symm)
        have sz_b41 : h0.size ≤ b41 := Nat.le_trans K40.1 (Nat.le_of_eq g41.symm)
        have Z41 : n0 ≤ h41.size := Nat.le_trans Z40 E41.1
        have K41 : Keep h0 h41 [] := K40.ext E41
        have V41 : Arv Z h41 b41 k41 .char (3 : Int32) [(.int (0 : Int32)), (.int (0 : Int32)), (.int (0 : Int32))] (.int (0 : Int32)) := (Arv.new A41 (by decide)).pad (pad_rep [] (.int (0 : Int32)) 3)
        obtain ⟨cl46, Ar46, q46, S46, NN46, HH46, GG46⟩ := id V41
        have hin46 : ¬ ((0 : Int32) < 0 ∨ cl46.slots.size ≤ ((0 : Int32)).toNatClampNeg) := inb_of S46 ⟨by decide, by decide⟩
        obtain ⟨T47, h47, X47, e47, W47, st47⟩ := stC X41 hx hZ e41 Ar46 (j := (0 : Int32)) hin46  (g := (mkF m 62 #[.val (.int c0), .val (.int c1), .val (.int c2), .val (.int c3), .val (.int c4), .val (.int c5), .val (.int (Int32.ofNat nn))] [(.int c0), (.int (0 : Int32)), (.ref b41), (.ref b41), (.ref b40), (.ref b40)])) rfl rfl (hb hby d2_62)
        have V47 : Arv Z h47 b41 k41 .char (3 : Int32) [(.int (nar .char c0)), (.int (0 : Int32)), (.int (0 : Int32))] (.int (0 : Int32)) := (Arv.set Ar46 q46 S46 NN46 HH46 GG46 (fits_nar_char _) W47 0 rfl (Nat.le_of_ble_eq_true rfl))
        have c48 : Exa Z h47 b40 "java/lang/String" := c43.wr W47
        have c49 : Fld Z h47 b40 "java/lang/String" "coder" "B" (.int (0 : Int32)) := c44.other W47 (Or.inl ne42)
        have c50 : Fld Z h47 b40 "java/lang/String" "value" "[B" .null := c45.other W47 (Or.inl ne42)
        have Z47 : n0 ≤ h47.size := Nat.le_trans Z41 (Keep.of_wr W47).1
        have N47 := Fr.snoc X47 N0 g_b41
        have K47 : Keep h0 h47 [] := K41.wr W47 (Or.inr sz_b41)
        obtain ⟨cl51, Ar51, q51, S51, NN51, HH51, GG51⟩ := id V47
        have hin51 : ¬ ((1 : Int32) < 0 ∨ cl51.slots.size ≤ ((1 : Int32)).toNatClampNeg) := inb_of S51 ⟨by decide, by decide⟩
        obtain ⟨T52, h52, X52, e52, W52, st52⟩ := stC X47 hx hZ e47 Ar51 (j := (1 : Int32)) hin51  (g := (mkF m 66 #[.val (.int c0), .val (.int c1), .val (.int c2), .val (.int c3), .val (.int c4), .val (.int c5), .val (.int (Int32.ofNat nn))] [(.int c1), (.int (1 : Int32)), (.ref b41), (.ref b41), (.ref b40), (.ref b40)])) rfl rfl (hb hby d2_66)
        have V52 : Arv Z h52 b41 k41 .char (3 : Int32) [(.int (nar .char c0)), (.int (nar .char c1)), (.int (0 : Int32))] (.int (0 : Int32)) := (Arv.set Ar51 q51 S51 NN51 HH51 GG51 (fits_nar_char _) W52 1 rfl (Nat.le_of_ble_eq_true rfl))
        have c53 : Exa Z h52 b40 "java/lang/String" := c48.wr W52
        have c54 : Fld Z h52 b40 "java/lang/String" "coder" "B" (.int (0 : Int32)) := c49.other W52 (Or.inl ne42)
        have c55 : Fld Z h52 b40 "java/lang/String" "value" "[B" .null := c50.other W52 (Or.inl ne42)
        have Z52 : n0 ≤ h52.size := Nat.le_trans Z47 (Keep.of_wr W52).1
        have N52 := Fr.snoc X52 N47 g_b41
        have K52 : Keep h0 h52 [] := K47.wr W52 (Or.inr sz_b41)
        obtain ⟨cl56, Ar56, q56, S56, NN56, HH56, GG56⟩ := id V52
        have hin56 : ¬ ((2 : Int32) < 0 ∨ cl56.slots.size ≤ ((2 : Int32)).toNatClampNeg) := inb_of S56 ⟨by decide, by decide⟩
        obtain ⟨T57, h57, X57, e57, W57, st57⟩ := stC X52 hx hZ e52 Ar56 (j := (2 : Int32)) hin56  (g := (mkF m 70 #[.val (.int c0), .val (.int c1), .val (.int c2), .val (.int c3), .val (.int c4), .val (.int c5), .val (.int (Int32.ofNat nn))] [(.int c2), (.int (2 : Int32)), (.ref b41), (.ref b41), (.ref b40), (.ref b40)])) rfl rfl (hb hby d2_70)
        have V57 : Arv Z h57 b41 k41 .char (3 : Int32) [(.int (nar .char c0)), (.int (nar .char c1)), (.int (nar .char c2))] (.int (0 : Int32)) := (Arv.set Ar56 q56 S56 NN56 HH56 GG56 (fits_nar_char _) W57 2 rfl (Nat.le_of_ble_eq_true rfl))
        have c58 : Exa Z h57 b40 "java/lang/String" := c53.wr W57
        have c59 : Fld Z h57 b40 "java/lang/String" "coder" "B" (.int (0 : Int32)) := c54.other W57 (Or.inl ne42)
        have c60 : Fld Z h57 b40 "java/lang/String" "value" "[B" .null := c55.other W57 (Or.inl ne42)
        have Z57 : n0 ≤ h57.size := Nat.le_trans Z52 (Keep.of_wr W57).1
        have N57 := Fr.snoc X57 N52 g_b41
        have K57 : Keep h0 h57 [] := K52.wr W57 (Or.inr sz_b41)
        have hws61 : ∀ d ∈ StrChars.Road.words, d.before a0 Z = true := fun d hd => hw d ((by decide +kernel : ∀ d ∈ StrChars.Road.words, d ∈ tables_1) d hd)
        have hp61 : ∀ c ∈ ([(nar .char c0), (nar .char c1), (nar .char c2)] : List Int32), ¬ c < 0 ∧ ¬ (255 : Int32) < c := fun c hc => ho c (List.mem_of_mem_take (i := 3) hc)
        obtain ⟨_, _, ⟨T61, L61, k61, n61⟩, -, X61, ⟨Lc61, hQ61, l61, y61, z61⟩, st61⟩ := X57.specialBack hx (y := (⟨"java/lang/String", "<init>", "([C)V"⟩ : MethodName)) rfl hown (mvT hZ (hw _ (List.mem_of_getElem? (i := 13) rfl))) (mvT hZ (hw _ (List.mem_of_getElem? (i := 14) rfl))) (mvT hZ (hw _ (List.mem_of_getElem? (i := 15) rfl))) (by decide) (StrChars.Road.backV (W := 1) hZ hws61 (kI := 4) (hw _ (List.mem_of_getElem? (i := 10) rfl)) (cs := ([(nar .char c0), (nar .char c1), (nar .char c2)] : List Int32)) (bs := (([(nar .char c0), (nar .char c1), (nar .char c2)] : List Int32)).map (fun c => c.toInt8.toInt32)) (n := 3) g_b40 Z57 c58 c60 c59 V57 (own_sta_keep S_cs K57) hcs rfl rfl (by decide) (by decide) hp61 rfl (by decide) (by decide)) (g := (mkF m 71 #[.val (.int c0), .val (.int c1), .val (.int c2), .val (.int c3), .val (.int c4), .val (.int c5), .val (.int (Int32.ofNat nn))] [(.ref b41), (.ref b40), (.ref b40)])) rfl (by rw [hml]; rfl) (Steps.refl _) (a := b40) (argsL := [(.ref b41)]) (rest := [(.ref b40)]) (lenOf pd_0 rfl) rfl (by show 2 * 0 + _ ≤ _; exact Nat.le_of_eq rfl) (hb hby d2_71) (fun _ _ => ⟨rfl, e57, (by decide : 2 + 1 ≤ _), (by decide : 7 + 3 ≤ _)⟩)
        dsimp only [Pt.U, Pt.locs, Pt.cells, Pt.slots] at X61 l61 y61 z61 st61 hQ61
        subst l61 y61 z61
        obtain ⟨rfl, N61q, K61q, f61_0, f61_1, t61, kb61, gt61, szt61, nt61, fv61, fb61⟩ := hQ61
        have N61 := Fr.app N57 N61q
        have Z61 : n0 ≤ T61.heap.size := Nat.le_trans Z57 K61q.1
        have c62 : Exa Z T61.heap b40 "java/lang/String" := c58.keep K61q
        have c63 : Arv Z T61.heap b41 k41 .char (3 : Int32) [(.int (nar .char c0)), (.int (nar .char c1)), (.int (nar .char c2))] (.int (0 : Int32)) := V57.keep K61q (ninS (Ne.symm ne42) nin0)
        have K61 : Keep h0 T61.heap [] := K57.trans K61q (allS (Or.inr sz_b40) all0)
        have sz_t61 : h0.size ≤ t61 := Nat.le_trans K57.1 szt61
        obtain ⟨fs, hr, hrun, hended, hW, hsame⟩ := X61.leave (v := some (.ref b40)) (fun h => by rw [Bd.returns] at h; cases h) (hlocks := BodyLoose.notSynchronized Bd)
        refine ⟨_, _, pre38 _ ?_, hrun, hended, _, _, rfl, ?_, ⟨_, rfl⟩, hW, hsame.mono (by decide) (by decide)⟩
        ·
          show Steps p.tables e below (s₁.setTop (mkF m 49 #[.val (.int c0), .val (.int c1), .val (.int c2), .val (.int c3), .val (.int c4), .val (.int c5), .val (.int (Int32.ofNat nn))] [(.int (3 : Int32)), (.int (Int32.ofNat nn))])) _
          refine XS.icmpNo X0.here hx rfl (hb hby d2_49) rfl (teq (hc39 : (Int32.ofNat nn) = (3 : Int32))).2 ?_
          show Steps p.tables e below (s₁.setTop (mkF m 52 #[.val (.int c0), .val (.int c1), .val (.int c2), .val (.int c3), .val (.int c4), .val (.int c5), .val (.int (Int32.ofNat nn))] [])) _
          refine st40 _ ?_
          show Steps p.tables e below (T40.setTop (mkF m 55 #[.val (.int c0), .val (.int c1), .val (.int c2), .val (.int c3), .val (.int c4), .val (.int c5), .val (.int (Int32.ofNat nn))] [(.ref b40)])) _
          refine XS.dup X40.here hx rfl (hb hby d2_55) rfl rfl ?_
          show Steps p.tables e below (T40.setTop (mkF m 56 #[.val (.int c0), .val (.int c1), .val (.int c2), .val (.int c3), .val (.int c4), .val (.int c5), .val (.int (Int32.ofNat nn))] [(.ref b40), (.ref b40)])) _
          refine XS.iconst X40.here hx rfl (hb hby d2_56) ?_
          show Steps p.tables e below (T40.setTop (mkF m 57 #[.val (.int c0), .val (.int c1), .val (.int c2), .val (.int c3), .val (.int c4), .val (.int c5), .val (.int (Int32.ofNat nn))] [(.int (3 : Int32)), (.ref b40), (.ref b40)])) _
          refine st41 _ ?_
          show Steps p.tables e below (T41.setTop (mkF m 59 #[.val (.int c0), .val (.int c1), .val (.int c2), .val (.int c3), .val (.int c4), .val (.int c5), .val (.int (Int32.ofNat nn))] [(.ref b41), (.ref b40), (.ref b40)])) _
          refine XS.dup X41.here hx rfl (hb hby d2_59) rfl rfl ?_
          show Steps p.tables e below (T41.setTop (mkF m 60 #[.val (.int c0), .val (.int c1), .val (.int c2), .val (.int c3), .val (.int c4), .val (.int c5), .val (.int (Int32.ofNat nn))] [(.ref b41), (.ref b41), (.ref b40), (.ref b40)])) _
          refine XS.iconst X41.here hx rfl (hb hby d2_60) ?_
          show Steps p.tables e below (T41.setTop (mkF m 61 #[.val (.int c0), .val (.int c1), .val (.int c2), .val (.int c3), .val (.int c4), .val (.int c5), .val (.int (Int32.ofNat nn))] [(.int (0 : Int32)), (.ref b41), (.ref b41), (.ref b40), (.ref b40)])) _
          refine XS.iloadN X41.here hx rfl (hb hby d2_61) rfl ?_
          show Steps p.tables e below (T41.setTop (mkF m 62 #[.val (.int c0), .val (.int c1), .val (.int c2), .val (.int c3), .val (.int c4), .val (.int c5), .val (.int (Int32.ofNat nn))] [(.int c0), (.int (0 : Int32)), (.ref b41), (.ref b41), (.ref b40), (.ref b40)])) _
          refine st47 _ ?_
          show Steps p.tables e below (T47.setTop (mkF m 63 #[.val (.int c0), .val (.int c1), .val (.int c2), .val (.int c3), .val (.int c4), .val (.int c5), .val (.int (Int32.ofNat nn))] [(.ref b41), (.ref b40), (.ref b40)])) _
          refine XS.dup X47.here hx rfl (hb hby d2_63) rfl rfl ?_
          show Steps p.tables e below (T47.setTop (mkF m 64 #[.val (.int c0), .val (.int c1), .val (.int c2), .val (.int c3), .val (.int c4), .val (.int c5), .val (.int (Int32.ofNat nn))] [(.ref b41), (.ref b41), (.ref b40), (.ref b40)])) _
          refine XS.iconst X47.here hx rfl (hb hby d2_64) ?_
          show Steps p.tables e below (T47.setTop (mkF m 65 #[.val (.int c0), .val (.int c1), .val (.int c2), .val (.int c3), .val (.int c4), .val (.int c5), .val (.int (Int32.ofNat nn))] [(.int (1 : Int32)), (.ref b41), (.ref b41), (.ref b40), (.ref b40)])) _
          refine XS.iloadN X47.here hx rfl (hb hby d2_65) rfl ?_
          show Steps p.tables e below (T47.setTop (mkF m 66 #[.val (.int c0), .val (.int c1), .val (.int c2), .val (.int c3), .val (.int c4), .val (.int c5), .val (.int (Int32.ofNat nn))] [(.int c1), (.int (1 : Int32)), (.ref b41), (.ref b41), (.ref b40), (.ref b40)])) _
          refine st52 _ ?_
          show Steps p.tables e below (T52.setTop (mkF m 67 #[.val (.int c0), .val (.int c1), .val (.int c2), .val (.int c3), .val (.int c4), .val (.int c5), .val (.int (Int32.ofNat nn))] [(.ref b41), (.ref b40), (.ref b40)])) _
          refine XS.dup X52.here hx rfl (hb hby d2_67) rfl rfl ?_
          show Steps p.tables e below (T52.setTop (mkF m 68 #[.val (.int c0), .val (.int c1), .val (.int c2), .val (.int c3), .val (.int c4), .val (.int c5), .val (.int (Int32.ofNat nn))] [(.ref b41), (.ref b41), (.ref b40), (.ref b40)])) _
          refine XS.iconst X52.here hx rfl (hb hby d2_68) ?_
          show Steps p.tables e below (T52.setTop (mkF m 69 #[.val (.int c0), .val (.int c1), .val (.int c2), .val (.int c3), .val (.int c4), .val (.int c5), .val (.int (Int32.ofNat nn))] [(.int (2 : Int32)), (.ref b41), (.ref b41), (.ref b40), (.ref b40)])) _
          refine XS.iloadN X52.here hx rfl (hb hby d2_69) rfl ?_
          show Steps p.tables e below (T52.setTop (mkF m 70 #[.val (.int c0), .val (.int c1), .val (.int c2), .val (.int c3), .val (.int c4), .val (.int c5), .val (.int (Int32.ofNat nn))] [(.int c2), (.int (2 : Int32)), (.ref b41), (.ref b41), (.ref b40), (.ref b40)])) _
          refine st57 _ ?_
          show Steps p.tables e below (T57.setTop (mkF m 71 #[.val (.int c0), .val (.int c1), .val (.int c2), .val (.int c3), .val (.int c4), .val (.int c5), .val (.int (Int32.ofNat nn))] [(.ref b41), (.ref b40), (.ref b40)])) _
          refine st61.trans ?_
          show Steps p.tables e below (T61.setTop (mkF m 74 #[.val (.int c0), .val (.int c1), .val (.int c2), .val (.int c3), .val (.int c4), .val (.int c5), .val (.int (Int32.ofNat nn))] [(.ref b40)])) _
          exact retOut X61 hx (t := (.object "java/lang/String")) (i := .areturn) Bd.returns rfl (Or.inr (Or.inr (Or.inr (Or.inr ⟨rfl, rfl, rfl⟩)))) (hb hby d2_74) hr
        ·
          show Q2 Z c0 c1 c2 c3 c4 c5 nn vz h0 n0 _ T61.heap _
          exact ⟨(by
      obtain rfl : nn = 3 := (own_eq32 (j := 3) (by omega) (by omega)).mp hc39
      exact ⟨b40, t61, kb61, rfl, sz_b40, sz_t61, nt61, f61_0, f61_1, fv61, fb61⟩), N61, K61⟩
      ·
        have pre64 : ∀ t, Steps p.tables e below (s₁.setTop (mkF m 78 #[.val (.int c0), .val (.int c1), .val (.int c2), .val (.int c3), .val (.int c4), .val (.int c5), .val (.int (Int32.ofNat nn))] [(.int (4 : Int32)), (.int (Int32.ofNat nn))])) t → Steps p.tables e below (s₁.setTop (entryFrame m #[(.int c0), (.int c1), (.int c2), (.int c3), (.int c4), (.int c5), (.int (Int32.ofNat nn))] 7)) t := by
          intro t kt
          refine pre38 t ?_
          show Steps p.tables e below (s₁.setTop (mkF m 49 #[.val (.int c0), .val (.int c1), .val (.int c2), .val (.int c3), .val (.int c4), .val (.int c5), .val (.int (Int32.ofNat nn))] [(.int (3 : Int32)), (.int (Int32.ofNat nn))])) _
          refine XS.icmpYes X0.here hx rfl (pc0 := 49) (pc' := 75) rfl (hb hby d2_49) rfl (feq (hc39 : ¬ ((Int32.ofNat nn) = (3 : Int32)))).2 (by decide) (by decide) ?_
          show Steps p.tables e below (s₁.setTop (mkF m 75 #[.val (.int c0), .val (.int c1), .val (.int c2), .val (.int c3), .val (.int c4), .val (.int c5), .val (.int (Int32.ofNat nn))] [])) _
          refine XS.iload X0.here hx rfl (hb hby d2_75) rfl ?_
          show Steps p.tables e below (s₁.setTop (mkF m 77 #[.val (.int c0), .val (.int c1), .val (.int c2), .val (.int c3), .val (.int c4), .val (.int c5), .val (.int (Int32.ofNat nn))] [(.int (Int32.ofNat nn))])) _
          refine XS.iconst X0.here hx rfl (hb hby d2_77) ?_
          exact kt
        by_cases hc65 : (Int32.ofNat nn) = (4 : Int32)
        ·
          obtain ⟨T66, h66, X66, e66, E66, A66, D66, -, st66⟩ := newO X0 hx hZ hown (hw _ (List.mem_of_getElem? (i := 9) rfl)) (hw _ (List.mem_of_getElem? (i := 10) rfl)) (hw _ (List.mem_of_getElem? (i := 11) rfl)) e0 (g := (mkF m 81 #[.val (.int c0), .val (.int c1), .val (.int c2), .val (.int c3), .val (.int c4), .val (.int c5), .val (.int (Int32.ofNat nn))] [])) rfl (hb hby d2_81) (by decide) (by decide)
          obtain ⟨b66, g66⟩ : ∃ z, z = h0.size := ⟨_, rfl⟩
          rw [← g66] at A66 D66 st66
          have g_b66 : n0 ≤ b66 := Nat.le_trans Z0 (Nat.le_of_eq g66.symm)
          have sz_b66 : h0.size ≤ b66 := Nat.le_trans (Keep.refl h0 []).1 (Nat.le_of_eq g66.symm)
          have Z66 : n0 ≤ h66.size := Nat.le_trans Z0 E66.1
          have K66 : Keep h0 h66 [] := (Keep.refl h0 []).ext E66
          have F66_coder : Fld Z h66 b66 "java/lang/String" "coder" "B" (.int (0 : Int32)) := D66 (Or.inr (hw _ (List.mem_of_getElem? (i := 36) rfl))) (ty := .byte) (by decide)
          have F66_value : Fld Z h66 b66 "java/lang/String" "value" "[B" .null := D66 (Or.inr (hw _ (List.mem_of_getElem? (i := 38) rfl))) (ty := (.array .byte)) (by decide)
          obtain ⟨T67, h67, k67, X67, e67, E67, A67, st67⟩ := newP X66 hx hZ (hw _ (List.mem_of_getElem? (i := 12) rfl)) e66 (g := (mkF m 86 #[.val (.int c0), .val (.int c1), .val (.int c2), .val (.int c3), .val (.int c4), .val (.int c5), .val (.int (Int32.ofNat nn))] [(.int (4 : Int32)), (.ref b66), (.ref b66)])) rfl (hb hby d2_86) rfl (by decide) (cap := 4) (by decide) (by decide) (by decide) (by decide)
          obtain ⟨b67, g67⟩ : ∃ z, z = h66.size := ⟨_, rfl⟩
          rw [← g67] at A67 st67
          have ne68 : b66 ≠ b67 := Nat.ne_of_lt (Nat.lt_of_lt_of_le A66.lt (Nat.le_of_eq g67.symm))
          have c69 : Exa Z h67 b66 "java/lang/String" := A66.ext E67
          have c70 : Fld Z h67 b66 "java/lang/String" "coder" "B" (.int (0 : Int32)) := F66_coder.ext E67
          have c71 : Fld Z h67 b66 "java/lang/String" "value" "[B" .null := F66_value.ext E67
          have g_b67 : n0 ≤ b67 := Nat.le_trans Z66 (Nat.le_of_eq g67.symm)
          have sz_b67 : h0.size ≤ b67 := Nat.le_trans K66.1 (Nat.le_of_eq g67.symm)
          have Z67 : n0 ≤ h67.size := Nat.le_trans Z66 E67.1
          have K67 : Keep h0 h67 [] := K66.ext E67
          have V67 : Arv Z h67 b67 k67 .char (4 : Int32) [(.int (0 : Int32)), (.int (0 : Int32)), (.int (0 : Int32)), (.int (0 : Int32))] (.int (0 : Int32)) := (Arv.new A67 (by decide)).pad (pad_rep [] (.int (0 : Int32)) 4)
          obtain ⟨cl72, Ar72, q72, S72, NN72, HH72, GG72⟩ := id V67
          have hin72 : ¬ ((0 : Int32) < 0 ∨ cl72.slots.size ≤ ((0 : Int32)).toNatClampNeg) := inb_of S72 ⟨by decide, by decide⟩
          obtain ⟨T73, h73, X73, e73, W73, st73⟩ := stC X67 hx hZ e67 Ar72 (j := (0 : Int32)) hin72  (g := (mkF m 91 #[.val (.int c0), .val (.int c1), .val (.int c2), .val (.int c3), .val (.int c4), .val (.int c5), .val (.int (Int32.ofNat nn))] [(.int c0), (.int (0 : Int32)), (.ref b67), (.ref b67), (.ref b66), (.ref b66)])) rfl rfl (hb hby d2_91)
          have V73 : Arv Z h73 b67 k67 .char (4 : Int32) [(.int (nar .char c0)), (.int (0 : Int32)), (.int (0 : Int32)), (.int (0 : Int32))] (.int (0 : Int32)) := (Arv.set Ar72 q72 S72 NN72 HH72 GG72 (fits_nar_char _) W73 0 rfl (Nat.le_of_ble_eq_true rfl))
          have c74 : Exa Z h73 b66 "java/lang/String" := c69.wr W73
          have c75 : Fld Z h73 b66 "java/lang/String" "coder" "B" (.int (0 : Int32)) := c70.other W73 (Or.inl ne68)
          have c76 : Fld Z h73 b66 "java/lang/String" "value" "[B" .null := c71.other W73 (Or.inl ne68)
          have Z73 : n0 ≤ h73.size := Nat.le_trans Z67 (Keep.of_wr W73).1
          have N73 := Fr.snoc X73 N0 g_b67
          have K73 : Keep h0 h73 [] := K67.wr W73 (Or.inr sz_b67)
          obtain ⟨cl77, Ar77, q77, S77, NN77, HH77, GG77⟩ := id V73
          have hin77 : ¬ ((1 : Int32) < 0 ∨ cl77.slots.size ≤ ((1 : Int32)).toNatClampNeg) := inb_of S77 ⟨by decide, by decide⟩
          obtain ⟨T78, h78, X78, e78, W78, st78⟩ := stC X73 hx hZ e73 Ar77 (j := (1 : Int32)) hin77  (g := (mkF m 95 #[.val (.int c0), .val (.int c1), .val (.int c2), .val (.int c3), .val (.int c4), .val (.int c5), .val (.int (Int32.ofNat nn))] [(.int c1), (.int (1 : Int32)), (.ref b67), (.ref b67), (.ref b66), (.ref b66)])) rfl rfl (hb hby d2_95)
          have V78 : Arv Z h78 b67 k67 .char (4 : Int32) [(.int (nar .char c0)), (.int (nar .char c1)), (.int (0 : Int32)), (.int (0 : Int32))] (.int (0 : Int32)) := (Arv.set Ar77 q77 S77 NN77 HH77 GG77 (fits_nar_char _) W78 1 rfl (Nat.le_of_ble_eq_true rfl))
          have c79 : Exa Z h78 b66 "java/lang/String" := c74.wr W78
          have c80 : Fld Z h78 b66 "java/lang/String" "coder" "B" (.int (0 : Int32)) := c75.other W78 (Or.inl ne68)
          have c81 : Fld Z h78 b66 "java/lang/String" "value" "[B" .null := c76.other W78 (Or.inl ne68)
          have Z78 : n0 ≤ h78.size := Nat.le_trans Z73 (Keep.of_wr W78).1
          have N78 := Fr.snoc X78 N73 g_b67
          have K78 : Keep h0 h78 [] := K73.wr W78 (Or.inr sz_b67)
          obtain ⟨cl82, Ar82, q82, S82, NN82, HH82, GG82⟩ := id V78
          have hin82 : ¬ ((2 : Int32) < 0 ∨ cl82.slots.size ≤ ((2 : Int32)).toNatClampNeg) := inb_of S82 ⟨by decide, by decide⟩
          obtain ⟨T83, h83, X83, e83, W83, st83⟩ := stC X78 hx hZ e78 Ar82 (j := (2 : Int32)) hin82  (g := (mkF m 99 #[.val (.int c0), .val (.int c1), .val (.int c2), .val (.int c3), .val (.int c4), .val (.int c5), .val (.int (Int32.ofNat nn))] [(.int c2), (.int (2 : Int32)), (.ref b67), (.ref b67), (.ref b66), (.ref b66)])) rfl rfl (hb hby d2_99)
          have V83 : Arv Z h83 b67 k67 .char (4 : Int32) [(.int (nar .char c0)), (.int (nar .char c1)), (.int (nar .char c2)), (.int (0 : Int32))] (.int (0 : Int32)) := (Arv.set Ar82 q82 S82 NN82 HH82 GG82 (fits_nar_char _) W83 2 rfl (Nat.le_of_ble_eq_true rfl))
          have c84 : Exa Z h83 b66 "java/lang/String" := c79.wr W83
          have c85 : Fld Z h83 b66 "java/lang/String" "coder" "B" (.int (0 : Int32)) := c80.other W83 (Or.inl ne68)
          have c86 : Fld Z h83 b66 "java/lang/String" "value" "[B" .null := c81.other W83 (Or.inl ne68)
          have Z83 : n0 ≤ h83.size := Nat.le_trans Z78 (Keep.of_wr W83).1
          have N83 := Fr.snoc X83 N78 g_b67
          have K83 : Keep h0 h83 [] := K78.wr W83 (Or.inr sz_b67)
          obtain ⟨cl87, Ar87, q87, S87, NN87, HH87, GG87⟩ := id V83
          have hin87 : ¬ ((3 : Int32) < 0 ∨ cl87.slots.size ≤ ((3 : Int32)).toNatClampNeg) := inb_of S87 ⟨by decide, by decide⟩
          obtain ⟨T88, h88, X88, e88, W88, st88⟩ := stC X83 hx hZ e83 Ar87 (j := (3 : Int32)) hin87  (g := (mkF m 103 #[.val (.int c0), .val (.int c1), .val (.int c2), .val (.int c3), .val (.int c4), .val (.int c5), .val (.int (Int32.ofNat nn))] [(.int c3), (.int (3 : Int32)), (.ref b67), (.ref b67), (.ref b66), (.ref b66)])) rfl rfl (hb hby d2_103)
          have V88 : Arv Z h88 b67 k67 .char (4 : Int32) [(.int (nar .char c0)), (.int (nar .char c1)), (.int (nar .char c2)), (.int (nar .char c3))] (.int (0 : Int32)) := (Arv.set Ar87 q87 S87 NN87 HH87 GG87 (fits_nar_char _) W88 3 rfl (Nat.le_of_ble_eq_true rfl))
          have c89 : Exa Z h88 b66 "java/lang/String" := c84.wr W88
          have c90 : Fld Z h88 b66 "java/lang/String" "coder" "B" (.int (0 : Int32)) := c85.other W88 (Or.inl ne68)
          have c91 : Fld Z h88 b66 "java/lang/String" "value" "[B" .null := c86.other W88 (Or.inl ne68)
          have Z88 : n0 ≤ h88.size := Nat.le_trans Z83 (Keep.of_wr W88).1
          have N88 := Fr.snoc X88 N83 g_b67
          have K88 : Keep h0 h88 [] := K83.wr W88 (Or.inr sz_b67)
          have hws92 : ∀ d ∈ StrChars.Road.words, d.before a0 Z = true := fun d hd => hw d ((by decide +kernel : ∀ d ∈ StrChars.Road.words, d ∈ tables_1) d hd)
          have hp92 : ∀ c ∈ ([(nar .char c0), (nar .char c1), (nar .char c2), (nar .char c3)] : List Int32), ¬ c < 0 ∧ ¬ (255 : Int32) < c := fun c hc => ho c (List.mem_of_mem_take (i := 4) hc)
          obtain ⟨_, _, ⟨T92, L92, k92, n92⟩, -, X92, ⟨Lc92, hQ92, l92, y92, z92⟩, st92⟩ := X88.specialBack hx (y := (⟨"java/lang/String", "<init>", "([C)V"⟩ : MethodName)) rfl hown (mvT hZ (hw _ (List.mem_of_getElem? (i := 13) rfl))) (mvT hZ (hw _ (List.mem_of_getElem? (i := 14) rfl))) (mvT hZ (hw _ (List.mem_of_getElem? (i := 15) rfl))) (by decide) (StrChars.Road.backV (W := 1) hZ hws92 (kI := 4) (hw _ (List.mem_of_getElem? (i := 10) rfl)) (cs := ([(nar .char c0), (nar .char c1), (nar .char c2), (nar .char c3)] : List Int32)) (bs := (([(nar .char c0), (nar .char c1), (nar .char c2), (nar .char c3)] : List Int32)).map (fun c => c.toInt8.toInt32)) (n := 4) g_b66 Z88 c89 c91 c90 V88 (own_sta_keep S_cs K88) hcs rfl rfl (by decide) (by decide) hp92 rfl (by decide) (by decide)) (g := (mkF m 104 #[.val (.int c0), .val (.int c1), .val (.int c2), .val (.int c3), .val (.int c4), .val (.int c5), .val (.int (Int32.ofNat nn))] [(.ref b67), (.ref b66), (.ref b66)])) rfl (by rw [hml]; rfl) (Steps.refl _) (a := b66) (argsL := [(.ref b67)]) (rest := [(.ref b66)]) (lenOf pd_0 rfl) rfl (by show 2 * 0 + _ ≤ _; exact Nat.le_of_eq rfl) (hb hby d2_104) (fun _ _ => ⟨rfl, e88, (by decide : 2 + 1 ≤ _), (by decide : 8 + 4 ≤ _)⟩)
          dsimp only [Pt.U, Pt.locs, Pt.cells, Pt.slots] at X92 l92 y92 z92 st92 hQ92
          subst l92 y92 z92
          obtain ⟨rfl, N92q, K92q, f92_0, f92_1, t92, kb92, gt92, szt92, nt92, fv92, fb92⟩ := hQ92
          have N92 := Fr.app N88 N92q
          have Z92 : n0 ≤ T92.heap.size := Nat.le_trans Z88 K92q.1
          have c93 : Exa Z T92.heap b66 "java/lang/String" := c89.keep K92q
          have c94 : Arv Z T92.heap b67 k67 .char (4 : Int32) [(.int (nar .char c0)), (.int (nar .char c1)), (.int (nar .char c2)), (.int (nar .char c3))] (.int (0 : Int32)) := V88.keep K92q (ninS (Ne.symm ne68) nin0)
          have K92 : Keep h0 T92.heap [] := K88.trans K92q (allS (Or.inr sz_b66) all0)
          have sz_t92 : h0.size ≤ t92 := Nat.le_trans K88.1 szt92
          obtain ⟨fs, hr, hrun, hended, hW, hsame⟩ := X92.leave (v := some (.ref b66)) (fun h => by rw [Bd.returns] at h; cases h) (hlocks := BodyLoose.notSynchronized Bd)
          refine ⟨_, _, pre64 _ ?_, hrun, hended, _, _, rfl, ?_, ⟨_, rfl⟩, hW, hsame.mono (by decide) (by decide)⟩
          ·
            show Steps p.tables e below (s₁.setTop (mkF m 78 #[.val (.int c0), .val (.int c1), .val (.int c2), .val (.int c3), .val (.int c4), .val (.int c5), .val (.int (Int32.ofNat nn))] [(.int (4 : Int32)), (.int (Int32.ofNat nn))])) _
            refine XS.icmpNo X0.here hx rfl (hb hby d2_78) rfl (teq (hc65 : (Int32.ofNat nn) = (4 : Int32))).2 ?_
            show Steps p.tables e below (s₁.setTop (mkF m 81 #[.val (.int c0), .val (.int c1), .val (.int c2), .val (.int c3), .val (.int c4), .val (.int c5), .val (.int (Int32.ofNat nn))] [])) _
            refine st66 _ ?_
            show Steps p.tables e below (T66.setTop (mkF m 84 #[.val (.int c0), .val (.int c1), .val (.int c2), .val (.int c3), .val (.int c4), .val (.int c5), .val (.int (Int32.ofNat nn))] [(.ref b66)])) _
            refine XS.dup X66.here hx rfl (hb hby d2_84) rfl rfl ?_
            show Steps p.tables e below (T66.setTop (mkF m 85 #[.val (.int c0), .val (.int c1), .val (.int c2), .val (.int c3), .val (.int c4), .val (.int c5), .val (.int (Int32.ofNat nn))] [(.ref b66), (.ref b66)])) _
            refine XS.iconst X66.here hx rfl (hb hby d2_85) ?_
            show Steps p.tables e below (T66.setTop (mkF m 86 #[.val (.int c0), .val (.int c1), .val (.int c2), .val (.int c3), .val (.int c4), .val (.int c5), .val (.int (Int32.ofNat nn))] [(.int (4 : Int32)), (.ref b66), (.ref b66)])) _
            refine st67 _ ?_
            show Steps p.tables e below (T67.setTop (mkF m 88 #[.val (.int c0), .val (.int c1), .val (.int c2), .val (.int c3), .val (.int c4), .val (.int c5), .val (.int (Int32.ofNat nn))] [(.ref b67), (.ref b66), (.ref b66)])) _
            refine XS.dup X67.here hx rfl (hb hby d2_88) rfl rfl ?_
            show Steps p.tables e below (T67.setTop (mkF m 89 #[.val (.int c0), .val (.int c1), .val (.int c2), .val (.int c3), .val (.int c4), .val (.int c5), .val (.int (Int32.ofNat nn))] [(.ref b67), (.ref b67), (.ref b66), (.ref b66)])) _
            refine XS.iconst X67.here hx rfl (hb hby d2_89) ?_
            show Steps p.tables e below (T67.setTop (mkF m 90 #[.val (.int c0), .val (.int c1), .val (.int c2), .val (.int c3), .val (.int c4), .val (.int c5), .val (.int (Int32.ofNat nn))] [(.int (0 : Int32)), (.ref b67), (.ref b67), (.ref b66), (.ref b66)])) _
            refine XS.iloadN X67.here hx rfl (hb hby d2_90) rfl ?_
            show Steps p.tables e below (T67.setTop (mkF m 91 #[.val (.int c0), .val (.int c1), .val (.int c2), .val (.int c3), .val (.int c4), .val (.int c5), .val (.int (Int32.ofNat nn))] [(.int c0), (.int (0 : Int32)), (.ref b67), (.ref b67), (.ref b66), (.ref b66)])) _
            refine st73 _ ?_
            show Steps p.tables e below (T73.setTop (mkF m 92 #[.val (.int c0), .val (.int c1), .val (.int c2), .val (.int c3), .val (.int c4), .val (.int c5), .val (.int (Int32.ofNat nn))] [(.ref b67), (.ref b66), (.ref b66)])) _
            refine XS.dup X73.here hx rfl (hb hby d2_92) rfl rfl ?_
            show Steps p.tables e below (T73.setTop (mkF m 93 #[.val (.int c0), .val (.int c1), .val (.int c2), .val (.int c3), .val (.int c4), .val (.int c5), .val (.int (Int32.ofNat nn))] [(.ref b67), (.ref b67), (.ref b66), (.ref b66)])) _
            refine XS.iconst X73.here hx rfl (hb hby d2_93) ?_
            show Steps p.tables e below (T73.setTop (mkF m 94 #[.val (.int c0), .val (.int c1), .val (.int c2), .val (.int c3), .val (.int c4), .val (.int c5), .val (.int (Int32.ofNat nn))] [(.int (1 : Int32)), (.ref b67), (.ref b67), (.ref b66), (.ref b66)])) _
            refine XS.iloadN X73.here hx rfl (hb hby d2_94) rfl ?_
            show Steps p.tables e below (T73.setTop (mkF m 95 #[.val (.int c0), .val (.int c1), .val (.int c2), .val (.int c3), .val (.int c4), .val (.int c5), .val (.int (Int32.ofNat nn))] [(.int c1), (.int (1 : Int32)), (.ref b67), (.ref b67), (.ref b66), (.ref b66)])) _
            refine st78 _ ?_
            show Steps p.tables e below (T78.setTop (mkF m 96 #[.val (.int c0), .val (.int c1), .val (.int c2), .val (.int c3), .val (.int c4), .val (.int c5), .val (.int (Int32.ofNat nn))] [(.ref b67), (.ref b66), (.ref b66)])) _
            refine XS.dup X78.here hx rfl (hb hby d2_96) rfl rfl ?_
            show Steps p.tables e below (T78.setTop (mkF m 97 #[.val (.int c0), .val (.int c1), .val (.int c2), .val (.int c3), .val (.int c4), .val (.int c5), .val (.int (Int32.ofNat nn))] [(.ref b67), (.ref b67), (.ref b66), (.ref b66)])) _
            refine XS.iconst X78.here hx rfl (hb hby d2_97) ?_
            show Steps p.tables e below (T78.setTop (mkF m 98 #[.val (.int c0), .val (.int c1), .val (.int c2), .val (.int c3), .val (.int c4), .val (.int c5), .val (.int (Int32.ofNat nn))] [(.int (2 : Int32)), (.ref b67), (.ref b67), (.ref b66), (.ref b66)])) _
            refine XS.iloadN X78.here hx rfl (hb hby d2_98) rfl ?_
            show Steps p.tables e below (T78.setTop (mkF m 99 #[.val (.int c0), .val (.int c1), .val (.int c2), .val (.int c3), .val (.int c4), .val (.int c5), .val (.int (Int32.ofNat nn))] [(.int c2), (.int (2 : Int32)), (.ref b67), (.ref b67), (.ref b66), (.ref b66)])) _
            refine st83 _ ?_
            show Steps p.tables e below (T83.setTop (mkF m 100 #[.val (.int c0), .val (.int c1), .val (.int c2), .val (.int c3), .val (.int c4), .val (.int c5), .val (.int (Int32.ofNat nn))] [(.ref b67), (.ref b66), (.ref b66)])) _
            refine XS.dup X83.here hx rfl (hb hby d2_100) rfl rfl ?_
            show Steps p.tables e below (T83.setTop (mkF m 101 #[.val (.int c0), .val (.int c1), .val (.int c2), .val (.int c3), .val (.int c4), .val (.int c5), .val (.int (Int32.ofNat nn))] [(.ref b67), (.ref b67), (.ref b66), (.ref b66)])) _
            refine XS.iconst X83.here hx rfl (hb hby d2_101) ?_
            show Steps p.tables e below (T83.setTop (mkF m 102 #[.val (.int c0), .val (.int c1), .val (.int c2), .val (.int c3), .val (.int c4), .val (.int c5), .val (.int (Int32.ofNat nn))] [(.int (3 : Int32)), (.ref b67), (.ref b67), (.ref b66), (.ref b66)])) _
            refine XS.iloadN X83.here hx rfl (hb hby d2_102) rfl ?_
            show Steps p.tables e below (T83.setTop (mkF m 103 #[.val (.int c0), .val (.int c1), .val (.int c2), .val (.int c3), .val (.int c4), .val (.int c5), .val (.int (Int32.ofNat nn))] [(.int c3), (.int (3 : Int32)), (.ref b67), (.ref b67), (.ref b66), (.ref b66)])) _
            refine st88 _ ?_
            show Steps p.tables e below (T88.setTop (mkF m 104 #[.val (.int c0), .val (.int c1), .val (.int c2), .val (.int c3), .val (.int c4), .val (.int c5), .val (.int (Int32.ofNat nn))] [(.ref b67), (.ref b66), (.ref b66)])) _
            refine st92.trans ?_
            show Steps p.tables e below (T92.setTop (mkF m 107 #[.val (.int c0), .val (.int c1), .val (.int c2), .val (.int c3), .val (.int c4), .val (.int c5), .val (.int (Int32.ofNat nn))] [(.ref b66)])) _
            exact retOut X92 hx (t := (.object "java/lang/String")) (i := .areturn) Bd.returns rfl (Or.inr (Or.inr (Or.inr (Or.inr ⟨rfl, rfl, rfl⟩)))) (hb hby d2_107) hr
          ·
            show Q2 Z c0 c1 c2 c3 c4 c5 nn vz h0 n0 _ T92.heap _
            exact ⟨(by
      obtain rfl : nn = 4 := (own_eq32 (j := 4) (by omega) (by omega)).mp hc65
      exact ⟨b66, t92, kb92, rfl, sz_b66, sz_t92, nt92, f92_0, f92_1, fv92, fb92⟩), N92, K92⟩
        ·
          have pre95 : ∀ t, Steps p.tables e below (s₁.setTop (mkF m 111 #[.val (.int c0), .val (.int c1), .val (.int c2), .val (.int c3), .val (.int c4), .val (.int c5), .val (.int (Int32.ofNat nn))] [(.int (5 : Int32)), (.int (Int32.ofNat nn))])) t → Steps p.tables e below (s₁.setTop (entryFrame m #[(.int c0), (.int c1), (.int c2), (.int c3), (.int c4), (.int c5), (.int (Int32.ofNat nn))] 7)) t := by
            intro t kt
            refine pre64 t ?_
            show Steps p.tables e below (s₁.setTop (mkF m 78 #[.val (.int c0), .val (.int c1), .val (.int c2), .val (.int c3), .val (.int c4), .val (.int c5), .val (.int (Int32.ofNat nn))] [(.int (4 : Int32)), (.int (Int32.ofNat nn))])) _
            refine XS.icmpYes X0.here hx rfl (pc0 := 78) (pc' := 108) rfl (hb hby d2_78) rfl (feq (hc65 : ¬ ((Int32.ofNat nn) = (4 : Int32)))).2 (by decide) (by decide) ?_
            show Steps p.tables e below (s₁.setTop (mkF m 108 #[.val (.int c0), .val (.int c1), .val (.int c2), .val (.int c3), .val (.int c4), .val (.int c5), .val (.int (Int32.ofNat nn))] [])) _
            refine XS.iload X0.here hx rfl (hb hby d2_108) rfl ?_
            show Steps p.tables e below (s₁.setTop (mkF m 110 #[.val (.int c0), .val (.int c1), .val (.int c2), .val (.int c3), .val (.int c4), .val (.int c5), .val (.int (Int32.ofNat nn))] [(.int (Int32.ofNat nn))])) _
            refine XS.iconst X0.here hx rfl (hb hby d2_110) ?_
            exact kt
          by_cases hc96 : (Int32.ofNat nn) = (5 : Int32)
          ·
            obtain ⟨T97, h97, X97, e97, E97, A97, D97, -, st97⟩ := newO X0 hx hZ hown (hw _ (List.mem_of_getElem? (i := 9) rfl)) (hw _ (List.mem_of_getElem? (i := 10) rfl)) (hw _ (List.mem_of_getElem? (i := 11) rfl)) e0 (g := (mkF m 114 #[.val (.int c0), .val (.int c1), .val (.int c2), .val (.int c3), .val (.int c4), .val (.int c5), .val (.int (Int32.ofNat nn))] [])) rfl (hb hby d2_114) (by decide) (by decide)
            obtain ⟨b97, g97⟩ : ∃ z, z = h0.size := ⟨_, rfl⟩
            rw [← g97] at A97 D97 st97
            have g_b97 : n0 ≤ b97 := Nat.le_trans Z0 (Nat.le_of_eq g97.symm)
            have sz_b97 : h0.size ≤ b97 := Nat.le_trans (Keep.refl h0 []).1 (Nat.le_of_eq g97.symm)
            have Z97 : n0 ≤ h97.size := Nat.le_trans Z0 E97.1
            have K97 : Keep h0 h97 [] := (Keep.refl h0 []).ext E97
            have F97_coder : Fld Z h97 b97 "java/lang/String" "coder" "B" (.int (0 : Int32)) := D97 (Or.inr (hw _ (List.mem_of_getElem? (i := 36) rfl))) (ty := .byte) (by decide)
            have F97_value : Fld Z h97 b97 "java/lang/String" "value" "[B" .null := D97 (Or.inr (hw _ (List.mem_of_getElem? (i := 38) rfl))) (ty := (.array .byte)) (by decide)
            obtain ⟨T98, h98, k98, X98, e98, E98, A98, st98⟩ := newP X97 hx hZ (hw _ (List.mem_of_getElem? (i := 12) rfl)) e97 (g := (mkF m 119 #[.val (.int c0), .val (.int c1), .val (.int c2), .val (.int c3), .val (.int c4), .val (.int c5), .val (.int (Int32.ofNat nn))] [(.int (5 : Int32)), (.ref b97), (.ref b97)])) rfl (hb hby d2_119) rfl (by decide) (cap := 5) (by decide) (by decide) (by decide) (by decide)
            obtain ⟨b98, g98⟩ : ∃ z, z = h97.size := ⟨_, rfl⟩
            rw [← g98] at A98 st98
            have ne99 : b97 ≠ b98 := Nat.ne_of_lt (Nat.lt_of_lt_of_le A97.lt (Nat.le_of_eq g98.symm))
            have c100 : Exa Z h98 b97 "java/lang/String" := A97.ext E98
            have c101 : Fld Z h98 b97 "java/lang/String" "coder" "B" (.int (0 : Int32)) := F97_coder.ext E98
            have c102 : Fld Z h98 b97 "java/lang/String" "value" "[B" .null := F97_value.ext E98
            have g_b98 : n0 ≤ b98 := Nat.le_trans Z97 (Nat.le_of_eq g98.symm)
            have sz_b98 : h0.size ≤ b98 := Nat.le_trans K97.1 (Nat.le_of_eq g98.symm)
            have Z98 : n0 ≤ h98.size := Nat.le_trans Z97 E98.1
            have K98 : Keep h0 h98 [] := K97.ext E98
            have V98 : Arv Z h98 b98 k98 .char (5 : Int32) [(.int (0 : Int32)), (.int (0 : Int32)), (.int (0 : Int32)), (.int (0 : Int32)), (.int (0 : Int32))] (.int (0 : Int32)) := (Arv.new A98 (by decide)).pad (pad_rep [] (.int (0 : Int32)) 5)
            obtain ⟨cl103, Ar103, q103, S103, NN103, HH103, GG103⟩ := id V98
            have hin103 : ¬ ((0 : Int32) < 0 ∨ cl103.slots.size ≤ ((0 : Int32)).toNatClampNeg) := inb_of S103 ⟨by decide, by decide⟩
            obtain ⟨T104, h104, X104, e104, W104, st104⟩ := stC X98 hx hZ e98 Ar103 (j := (0 : Int32)) hin103  (g := (mkF m 124 #[.val (.int c0), .val (.int c1), .val (.int c2), .val (.int c3), .val (.int c4), .val (.int c5), .val (.int (Int32.ofNat nn))] [(.int c0), (.int (0 : Int32)), (.ref b98), (.ref b98), (.ref b97), (.ref b97)])) rfl rfl (hb hby d2_124)
            have V104 : Arv Z h104 b98 k98 .char (5 : Int32) [(.int (nar .char c0)), (.int (0 : Int32)), (.int (0 : Int32)), (.int (0 : Int32)), (.int (0 : Int32))] (.int (0 : Int32)) := (Arv.set Ar103 q103 S103 NN103 HH103 GG103 (fits_nar_char _) W104 0 rfl (Nat.le_of_ble_eq_true rfl))
            have c105 : Exa Z h104 b97 "java/lang/String" := c100.wr W104
            have c106 : Fld Z h104 b97 "java/lang/String" "coder" "B" (.int (0 : Int32)) := c101.other W104 (Or.inl ne99)
            have c107 : Fld Z h104 b97 "java/lang/String" "value" "[B" .null := c102.other W104 (Or.inl ne99)
            have Z104 : n0 ≤ h104.size := Nat.le_trans Z98 (Keep.of_wr W104).1
            have N104 := Fr.snoc X104 N0 g_b98
            have K104 : Keep h0 h104 [] := K98.wr W104 (Or.inr sz_b98)
            obtain ⟨cl108, Ar108, q108, S108, NN108, HH108, GG108⟩ := id V104
            have hin108 : ¬ ((1 : Int32) < 0 ∨ cl108.slots.size ≤ ((1 : Int32)).toNatClampNeg) := inb_of S108 ⟨by decide, by decide⟩
            obtain ⟨T109, h109, X109, e109, W109, st109⟩ := stC X104 hx hZ e104 Ar108 (j := (1 : Int32)) hin108  (g := (mkF m 128 #[.val (.int c0), .val (.int c1), .val (.int c2), .val (.int c3), .val (.int c4), .val (.int c5), .val (.int (Int32.ofNat nn))] [(.int c1), (.int (1 : Int32)), (.ref b98), (.ref b98), (.ref b97), (.ref b97)])) rfl rfl (hb hby d2_128)
            have V109 : Arv Z h109 b98 k98 .char (5 : Int32) [(.int (nar .char c0)), (.int (nar .char c1)), (.int (0 : Int32)), (.int (0 : Int32)), (.int (0 : Int32))] (.int (0 : Int32)) := (Arv.set Ar108 q108 S108 NN108 HH108 GG108 (fits_nar_char _) W109 1 rfl (Nat.le_of_ble_eq_true rfl))
            have c110 : Exa Z h109 b97 "java/lang/String" := c105.wr W109
            have c111 : Fld Z h109 b97 "java/lang/String" "coder" "B" (.int (0 : Int32)) := c106.other W109 (Or.inl ne99)
            have c112 : Fld Z h109 b97 "java/lang/String" "value" "[B" .null := c107.other W109 (Or.inl ne99)
            have Z109 : n0 ≤ h109.size := Nat.le_trans Z104 (Keep.of_wr W109).1
            have N109 := Fr.snoc X109 N104 g_b98
            have K109 : Keep h0 h109 [] := K104.wr W109 (Or.inr sz_b98)
            obtain ⟨cl113, Ar113, q113, S113, NN113, HH113, GG113⟩ := id V109
            have hin113 : ¬ ((2 : Int32) < 0 ∨ cl113.slots.size ≤ ((2 : Int32)).toNatClampNeg) := inb_of S113 ⟨by decide, by decide⟩
            obtain ⟨T114, h114, X114, e114, W114, st114⟩ := stC X109 hx hZ e109 Ar113 (j := (2 : Int32)) hin113  (g := (mkF m 132 #[.val (.int c0), .val (.int c1), .val (.int c2), .val (.int c3), .val (.int c4), .val (.int c5), .val (.int (Int32.ofNat nn))] [(.int c2), (.int (2 : Int32)), (.ref b98), (.ref b98), (.ref b97), (.ref b97)])) rfl rfl (hb hby d2_132)
            have V114 : Arv Z h114 b98 k98 .char (5 : Int32) [(.int (nar .char c0)), (.int (nar .char c1)), (.int (nar .char c2)), (.int (0 : Int32)), (.int (0 : Int32))] (.int (0 : Int32)) := (Arv.set Ar113 q113 S113 NN113 HH113 GG113 (fits_nar_char _) W114 2 rfl (Nat.le_of_ble_eq_true rfl))
            have c115 : Exa Z h114 b97 "java/lang/String" := c110.wr W114
            have c116 : Fld Z h114 b97 "java/lang/String" "coder" "B" (.int (0 : Int32)) := c111.other W114 (Or.inl ne99)
            have c117 : Fld Z h114 b97 "java/lang/String" "value" "[B" .null := c112.other W114 (Or.inl ne99)
            have Z114 : n0 ≤ h114.size := Nat.le_trans Z109 (Keep.of_wr W114).1
            have N114 := Fr.snoc X114 N109 g_b98
            have K114 : Keep h0 h114 [] := K109.wr W114 (Or.inr sz_b98)
            obtain ⟨cl118, Ar118, q118, S118, NN118, HH118, GG118⟩ := id V114
            have hin118 : ¬ ((3 : Int32) < 0 ∨ cl118.slots.size ≤ ((3 : Int32)).toNatClampNeg) := inb_of S118 ⟨by decide, by decide⟩
            obtain ⟨T119, h119, X119, e119, W119, st119⟩ := stC X114 hx hZ e114 Ar118 (j := (3 : Int32)) hin118  (g := (mkF m 136 #[.val (.int c0), .val (.int c1), .val (.int c2), .val (.int c3), .val (.int c4), .val (.int c5), .val (.int (Int32.ofNat nn))] [(.int c3), (.int (3 : Int32)), (.ref b98), (.ref b98), (.ref b97), (.ref b97)])) rfl rfl (hb hby d2_136)
            have V119 : Arv Z h119 b98 k98 .char (5 : Int32) [(.int (nar .char c0)), (.int (nar .char c1)), (.int (nar .char c2)), (.int (nar .char c3)), (.int (0 : Int32))] (.int (0 : Int32)) := (Arv.set Ar118 q118 S118 NN118 HH118 GG118 (fits_nar_char _) W119 3 rfl (Nat.le_of_ble_eq_true rfl))
            have c120 : Exa Z h119 b97 "java/lang/String" := c115.wr W119
            have c121 : Fld Z h119 b97 "java/lang/String" "coder" "B" (.int (0 : Int32)) := c116.other W119 (Or.inl ne99)
            have c122 : Fld Z h119 b97 "java/lang/String" "value" "[B" .null := c117.other W119 (Or.inl ne99)
            have Z119 : n0 ≤ h119.size := Nat.le_trans Z114 (Keep.of_wr W119).1
            have N119 := Fr.snoc X119 N114 g_b98
            have K119 : Keep h0 h119 [] := K114.wr W119 (Or.inr sz_b98)
            obtain ⟨cl123, Ar123, q123, S123, NN123, HH123, GG123⟩ := id V119
            have hin123 : ¬ ((4 : Int32) < 0 ∨ cl123.slots.size ≤ ((4 : Int32)).toNatClampNeg) := inb_of S123 ⟨by decide, by decide⟩
            obtain ⟨T124, h124, X124, e124, W124, st124⟩ := stC X119 hx hZ e119 Ar123 (j := (4 : Int32)) hin123  (g := (mkF m 141 #[.val (.int c0), .val (.int c1), .val (.int c2), .val (.int c3), .val (.int c4), .val (.int c5), .val (.int (Int32.ofNat nn))] [(.int c4), (.int (4 : Int32)), (.ref b98), (.ref b98), (.ref b97), (.ref b97)])) rfl rfl (hb hby d2_141)
            have V124 : Arv Z h124 b98 k98 .char (5 : Int32) [(.int (nar .char c0)), (.int (nar .char c1)), (.int (nar .char c2)), (.int (nar .char c3)), (.int (nar .char c4))] (.int (0 : Int32)) := (Arv.set Ar123 q123 S123 NN123 HH123 GG123 (fits_nar_char _) W124 4 rfl (Nat.le_of_ble_eq_true rfl))
            have c125 : Exa Z h124 b97 "java/lang/String" := c120.wr W124
            have c126 : Fld Z h124 b97 "java/lang/String" "coder" "B" (.int (0 : Int32)) := c121.other W124 (Or.inl ne99)
            have c127 : Fld Z h124 b97 "java/lang/String" "value" "[B" .null := c122.other W124 (Or.inl ne99)
            have Z124 : n0 ≤ h124.size := Nat.le_trans Z119 (Keep.of_wr W124).1
            have N124 := Fr.snoc X124 N119 g_b98
            have K124 : Keep h0 h124 [] := K119.wr W124 (Or.inr sz_b98)
            have hws128 : ∀ d ∈ StrChars.Road.words, d.before a0 Z = true := fun d hd => hw d ((by decide +kernel : ∀ d ∈ StrChars.Road.words, d ∈ tables_1) d hd)
            have hp128 : ∀ c ∈ ([(nar .char c0), (nar .char c1), (nar .char c2), (nar .char c3), (nar .char c4)] : List Int32), ¬ c < 0 ∧ ¬ (255 : Int32) < c := fun c hc => ho c (List.mem_of_mem_take (i := 5) hc)
            obtain ⟨_, _, ⟨T128, L128, k128, n128⟩, -, X128, ⟨Lc128, hQ128, l128, y128, z128⟩, st128⟩ := X124.specialBack hx (y := (⟨"java/lang/String", "<init>", "([C)V"⟩ : MethodName)) rfl hown (mvT hZ (hw _ (List.mem_of_getElem? (i := 13) rfl))) (mvT hZ (hw _ (List.mem_of_getElem? (i := 14) rfl))) (mvT hZ (hw _ (List.mem_of_getElem? (i := 15) rfl))) (by decide) (StrChars.Road.backV (W := 1) hZ hws128 (kI := 4) (hw _ (List.mem_of_getElem? (i := 10) rfl)) (cs := ([(nar .char c0), (nar .char c1), (nar .char c2), (nar .char c3), (nar .char c4)] : List Int32)) (bs := (([(nar .char c0), (nar .char c1), (nar .char c2), (nar .char c3), (nar .char c4)] : List Int32)).map (fun c => c.toInt8.toInt32)) (n := 5) g_b97 Z124 c125 c127 c126 V124 (own_sta_keep S_cs K124) hcs rfl rfl (by decide) (by decide) hp128 rfl (by decide) (by decide)) (g := (mkF m 142 #[.val (.int c0), .val (.int c1), .val (.int c2), .val (.int c3), .val (.int c4), .val (.int c5), .val (.int (Int32.ofNat nn))] [(.ref b98), (.ref b97), (.ref b97)])) rfl (by rw [hml]; rfl) (Steps.refl _) (a := b97) (argsL := [(.ref b98)]) (rest := [(.ref b97)]) (lenOf pd_0 rfl) rfl (by show 2 * 0 + _ ≤ _; exact Nat.le_of_eq rfl) (hb hby d2_142) (fun _ _ => ⟨rfl, e124, (by decide : 2 + 1 ≤ _), (by decide : 9 + 5 ≤ _)⟩)
            dsimp only [Pt.U, Pt.locs, Pt.cells, Pt.slots] at X128 l128 y128 z128 st128 hQ128
            subst l128 y128 z128
            obtain ⟨rfl, N128q, K128q, f128_0, f128_1, t128, kb128, gt128, szt128, nt128, fv128, fb128⟩ := hQ128
            have N128 := Fr.app N124 N128q
            have Z128 : n0 ≤ T128.heap.size := Nat.le_trans Z124 K128q.1
            have c129 : Exa Z T128.heap b97 "java/lang/String" := c125.keep K128q
            have c130 : Arv Z T128.heap b98 k98 .char (5 : Int32) [(.int (nar .char c0)), (.int (nar .char c1)), (.int (nar .char c2)), (.int (nar .char c3)), (.int (nar .char c4))] (.int (0 : Int32)) := V124.keep K128q (ninS (Ne.symm ne99) nin0)
            have K128 : Keep h0 T128.heap [] := K124.trans K128q (allS (Or.inr sz_b97) all0)
            have sz_t128 : h0.size ≤ t128 := Nat.le_trans K124.1 szt128
            obtain ⟨fs, hr, hrun, hended, hW, hsame⟩ := X128.leave (v := some (.ref b97)) (fun h => by rw [Bd.returns] at h; cases h) (hlocks := BodyLoose.notSynchronized Bd)
            refine ⟨_, _, pre95 _ ?_, hrun, hended, _, _, rfl, ?_, ⟨_, rfl⟩, hW, hsame.mono (by decide) (by decide)⟩
            ·
              show Steps p.tables e below (s₁.setTop (mkF m 111 #[.val (.int c0), .val (.int c1), .val (.int c2), .val (.int c3), .val (.int c4), .val (.int c5), .val (.int (Int32.ofNat nn))] [(.int (5 : Int32)), (.int (Int32.ofNat nn))])) _
              refine XS.icmpNo X0.here hx rfl (hb hby d2_111) rfl (teq (hc96 : (Int32.ofNat nn) = (5 : Int32))).2 ?_
              show Steps p.tables e below (s₁.setTop (mkF m 114 #[.val (.int c0), .val (.int c1), .val (.int c2), .val (.int c3), .val (.int c4), .val (.int c5), .val (.int (Int32.ofNat nn))] [])) _
              refine st97 _ ?_
              show Steps p.tables e below (T97.setTop (mkF m 117 #[.val (.int c0), .val (.int c1), .val (.int c2), .val (.int c3), .val (.int c4), .val (.int c5), .val (.int (Int32.ofNat nn))] [(.ref b97)])) _
              refine XS.dup X97.here hx rfl (hb hby d2_117) rfl rfl ?_
              show Steps p.tables e below (T97.setTop (mkF m 118 #[.val (.int c0), .val (.int c1), .val (.int c2), .val (.int c3), .val (.int c4), .val (.int c5), .val (.int (Int32.ofNat nn))] [(.ref b97), (.ref b97)])) _
              refine XS.iconst X97.here hx rfl (hb hby d2_118) ?_
              show Steps p.tables e below (T97.setTop (mkF m 119 #[.val (.int c0), .val (.int c1), .val (.int c2), .val (.int c3), .val (.int c4), .val (.int c5), .val (.int (Int32.ofNat nn))] [(.int (5 : Int32)), (.ref b97), (.ref b97)])) _
              refine st98 _ ?_
              show Steps p.tables e below (T98.setTop (mkF m 121 #[.val (.int c0), .val (.int c1), .val (.int c2), .val (.int c3), .val (.int c4), .val (.int c5), .val (.int (Int32.ofNat nn))] [(.ref b98), (.ref b97), (.ref b97)])) _
              refine XS.dup X98.here hx rfl (hb hby d2_121) rfl rfl ?_
              show Steps p.tables e below (T98.setTop (mkF m 122 #[.val (.int c0), .val (.int c1), .val (.int c2), .val (.int c3), .val (.int c4), .val (.int c5), .val (.int (Int32.ofNat nn))] [(.ref b98), (.ref b98), (.ref b97), (.ref b97)])) _
              refine XS.iconst X98.here hx rfl (hb hby d2_122) ?_
              show Steps p.tables e below (T98.setTop (mkF m 123 #[.val (.int c0), .val (.int c1), .val (.int c2), .val (.int c3), .val (.int c4), .val (.int c5), .val (.int (Int32.ofNat nn))] [(.int (0 : Int32)), (.ref b98), (.ref b98), (.ref b97), (.ref b97)])) _
              refine XS.iloadN X98.here hx rfl (hb hby d2_123) rfl ?_
              show Steps p.tables e below (T98.setTop (mkF m 124 #[.val (.int c0), .val (.int c1), .val (.int c2), .val (.int c3), .val (.int c4), .val (.int c5), .val (.int (Int32.ofNat nn))] [(.int c0), (.int (0 : Int32)), (.ref b98), (.ref b98), (.ref b97), (.ref b97)])) _
              refine st104 _ ?_
              show Steps p.tables e below (T104.setTop (mkF m 125 #[.val (.int c0), .val (.int c1), .val (.int c2), .val (.int c3), .val (.int c4), .val (.int c5), .val (.int (Int32.ofNat nn))] [(.ref b98), (.ref b97), (.ref b97)])) _
              refine XS.dup X104.here hx rfl (hb hby d2_125) rfl rfl ?_
              show Steps p.tables e below (T104.setTop (mkF m 126 #[.val (.int c0), .val (.int c1), .val (.int c2), .val (.int c3), .val (.int c4), .val (.int c5), .val (.int (Int32.ofNat nn))] [(.ref b98), (.ref b98), (.ref b97), (.ref b97)])) _
              refine XS.iconst X104.here hx rfl (hb hby d2_126) ?_
              show Steps p.tables e below (T104.setTop (mkF m 127 #[.val (.int c0), .val (.int c1), .val (.int c2), .val (.int c3), .val (.int c4), .val (.int c5), .val (.int (Int32.ofNat nn))] [(.int (1 : Int32)), (.ref b98), (.ref b98), (.ref b97), (.ref b97)])) _
              refine XS.iloadN X104.here hx rfl (hb hby d2_127) rfl ?_
              show Steps p.tables e below (T104.setTop (mkF m 128 #[.val (.int c0), .val (.int c1), .val (.int c2), .val (.int c3), .val (.int c4), .val (.int c5), .val (.int (Int32.ofNat nn))] [(.int c1), (.int (1 : Int32)), (.ref b98), (.ref b98), (.ref b97), (.ref b97)])) _
              refine st109 _ ?_
              show Steps p.tables e below (T109.setTop (mkF m 129 #[.val (.int c0), .val (.int c1), .val (.int c2), .val (.int c3), .val (.int c4), .val (.int c5), .val (.int (Int32.ofNat nn))] [(.ref b98), (.ref b97), (.ref b97)])) _
              refine XS.dup X109.here hx rfl (hb hby d2_129) rfl rfl ?_
              show Steps p.tables e below (T109.setTop (mkF m 130 #[.val (.int c0), .val (.int c1), .val (.int c2), .val (.int c3), .val (.int c4), .val (.int c5), .val (.int (Int32.ofNat nn))] [(.ref b98), (.ref b98), (.ref b97), (.ref b97)])) _
              refine XS.iconst X109.here hx rfl (hb hby d2_130) ?_
              show Steps p.tables e below (T109.setTop (mkF m 131 #[.val (.int c0), .val (.int c1), .val (.int c2), .val (.int c3), .val (.int c4), .val (.int c5), .val (.int (Int32.ofNat nn))] [(.int (2 : Int32)), (.ref b98), (.ref b98), (.ref b97), (.ref b97)])) _
              refine XS.iloadN X109.here hx rfl (hb hby d2_131) rfl ?_
              show Steps p.tables e below (T109.setTop (mkF m 132 #[.val (.int c0), .val (.int c1), .val (.int c2), .val (.int c3), .val (.int c4), .val (.int c5), .val (.int (Int32.ofNat nn))] [(.int c2), (.int (2 : Int32)), (.ref b98), (.ref b98), (.ref b97), (.ref b97)])) _
              refine st114 _ ?_
              show Steps p.tables e below (T114.setTop (mkF m 133 #[.val (.int c0), .val (.int c1), .val (.int c2), .val (.int c3), .val (.int c4), .val (.int c5), .val (.int (Int32.ofNat nn))] [(.ref b98), (.ref b97), (.ref b97)])) _
              refine XS.dup X114.here hx rfl (hb hby d2_133) rfl rfl ?_
              show Steps p.tables e below (T114.setTop (mkF m 134 #[.val (.int c0), .val (.int c1), .val (.int c2), .val (.int c3), .val (.int c4), .val (.int c5), .val (.int (Int32.ofNat nn))] [(.ref b98), (.ref b98), (.ref b97), (.ref b97)])) _
              refine XS.iconst X114.here hx rfl (hb hby d2_134) ?_
              show Steps p.tables e below (T114.setTop (mkF m 135 #[.val (.int c0), .val (.int c1), .val (.int c2), .val (.int c3), .val (.int c4), .val (.int c5), .val (.int (Int32.ofNat nn))] [(.int (3 : Int32)), (.ref b98), (.ref b98), (.ref b97), (.ref b97)])) _
              refine XS.iloadN X114.here hx rfl (hb hby d2_135) rfl ?_
              show Steps p.tables e below (T114.setTop (mkF m 136 #[.val (.int c0), .val (.int c1), .val (.int c2), .val (.int c3), .val (.int c4), .val (.int c5), .val (.int (Int32.ofNat nn))] [(.int c3), (.int (3 : Int32)), (.ref b98), (.ref b98), (.ref b97), (.ref b97)])) _
              refine st119 _ ?_
              show Steps p.tables e below (T119.setTop (mkF m 137 #[.val (.int c0), .val (.int c1), .val (.int c2), .val (.int c3), .val (.int c4), .val (.int c5), .val (.int (Int32.ofNat nn))] [(.ref b98), (.ref b97), (.ref b97)])) _
              refine XS.dup X119.here hx rfl (hb hby d2_137) rfl rfl ?_
              show Steps p.tables e below (T119.setTop (mkF m 138 #[.val (.int c0), .val (.int c1), .val (.int c2), .val (.int c3), .val (.int c4), .val (.int c5), .val (.int (Int32.ofNat nn))] [(.ref b98), (.ref b98), (.ref b97), (.ref b97)])) _
              refine XS.iconst X119.here hx rfl (hb hby d2_138) ?_
              show Steps p.tables e below (T119.setTop (mkF m 139 #[.val (.int c0), .val (.int c1), .val (.int c2), .val (.int c3), .val (.int c4), .val (.int c5), .val (.int (Int32.ofNat nn))] [(.int (4 : Int32)), (.ref b98), (.ref b98), (.ref b97), (.ref b97)])) _
              refine XS.iload X119.here hx rfl (hb hby d2_139) rfl ?_
              show Steps p.tables e below (T119.setTop (mkF m 141 #[.val (.int c0), .val (.int c1), .val (.int c2), .val (.int c3), .val (.int c4), .val (.int c5), .val (.int (Int32.ofNat nn))] [(.int c4), (.int (4 : Int32)), (.ref b98), (.ref b98), (.ref b97), (.ref b97)])) _
              refine st124 _ ?_
              show Steps p.tables e below (T124.setTop (mkF m 142 #[.val (.int c0), .val (.int c1), .val (.int c2), .val (.int c3), .val (.int c4), .val (.int c5), .val (.int (Int32.ofNat nn))] [(.ref b98), (.ref b97), (.ref b97)])) _
              refine st128.trans ?_
              show Steps p.tables e below (T128.setTop (mkF m 145 #[.val (.int c0), .val (.int c1), .val (.int c2), .val (.int c3), .val (.int c4), .val (.int c5), .val (.int (Int32.ofNat nn))] [(.ref b97)])) _
              exact retOut X128 hx (t := (.object "java/lang/String")) (i := .areturn) Bd.returns rfl (Or.inr (Or.inr (Or.inr (Or.inr ⟨rfl, rfl, rfl⟩)))) (hb hby d2_145) hr
            ·
              show Q2 Z c0 c1 c2 c3 c4 c5 nn vz h0 n0 _ T128.heap _
              exact ⟨(by
      obtain rfl : nn = 5 := (own_eq32 (j := 5) (by omega) (by omega)).mp hc96
      exact ⟨b97, t128, kb128, rfl, sz_b97, sz_t128, nt128, f128_0, f128_1, fv128, fb128⟩), N128, K128⟩
          ·
            obtain ⟨T131, h131, X131, e131, E131, A131, D131, -, st131⟩ := newO X0 hx hZ hown (hw _ (List.mem_of_getElem? (i := 9) rfl)) (hw _ (List.mem_of_getElem? (i := 10) rfl)) (hw _ (List.mem_of_getElem? (i := 11) rfl)) e0 (g := (mkF m 146 #[.val (.int c0), .val (.int c1), .val (.int c2), .val (.int c3), .val (.int c4), .val (.int c5), .val (.int (Int32.ofNat nn))] [])) rfl (hb hby d2_146) (by decide) (by decide)
            obtain ⟨b131, g131⟩ : ∃ z, z = h0.size := ⟨_, rfl⟩
            rw [← g131] at A131 D131 st131
            have g_b131 : n0 ≤ b131 := Nat.le_trans Z0 (Nat.le_of_eq g131.symm)
            have sz_b131 : h0.size ≤ b131 := Nat.le_trans (Keep.refl h0 []).1 (Nat.le_of_eq g131.symm)
            have Z131 : n0 ≤ h131.size := Nat.le_trans Z0 E131.1
            have K131 : Keep h0 h131 [] := (Keep.refl h0 []).ext E131
            have F131_coder : Fld Z h131 b131 "java/lang/String" "coder" "B" (.int (0 : Int32)) := D131 (Or.inr (hw _ (List.mem_of_getElem? (i := 36) rfl))) (ty := .byte) (by decide)
            have F131_value : Fld Z h131 b131 "java/lang/String" "value" "[B" .null := D131 (Or.inr (hw _ (List.mem_of_getElem? (i := 38) rfl))) (ty := (.array .byte)) (by decide)
            obtain ⟨T132, h132, k132, X132, e132, E132, A132, st132⟩ := newP X131 hx hZ (hw _ (List.mem_of_getElem? (i := 12) rfl)) e131 (g := (mkF m 152 #[.val (.int c0), .val (.int c1), .val (.int c2), .val (.int c3), .val (.int c4), .val (.int c5), .val (.int (Int32.ofNat nn))] [(.int (6 : Int32)), (.ref b131), (.ref b131)])) rfl (hb hby d2_152) rfl (by decide) (cap := 6) (by decide) (by decide) (by decide) (by decide)
            obtain ⟨b132, g132⟩ : ∃ z, z = h131.size := ⟨_, rfl⟩
            rw [← g132] at A132 st132
            have ne133 : b131 ≠ b132 := Nat.ne_of_lt (Nat.lt_of_lt_of_le A131.lt (Nat.le_of_eq g132.symm))
            have c134 : Exa Z h132 b131 "java/lang/String" := A131.ext E132
            have c135 : Fld Z h132 b131 "java/lang/String" "coder" "B" (.int (0 : Int32)) := F131_coder.ext E132
            have c136 : Fld Z h132 b131 "java/lang/String" "value" "[B" .null := F131_value.ext E132
            have g_b132 : n0 ≤ b132 := Nat.le_trans Z131 (Nat.le_of_eq g132.symm)
            have sz_b132 : h0.size ≤ b132 := Nat.le_trans K131.1 (Nat.le_of_eq g132.symm)
            have Z132 : n0 ≤ h132.size := Nat.le_trans Z131 E132.1
            have K132 : Keep h0 h132 [] := K131.ext E132
            have V132 : Arv Z h132 b132 k132 .char (6 : Int32) [(.int (0 : Int32)), (.int (0 : Int32)), (.int (0 : Int32)), (.int (0 : Int32)), (.int (0 : Int32)), (.int (0 : Int32))] (.int (0 : Int32)) := (Arv.new A132 (by decide)).pad (pad_rep [] (.int (0 : Int32)) 6)
            obtain ⟨cl137, Ar137, q137, S137, NN137, HH137, GG137⟩ := id V132
            have hin137 : ¬ ((0 : Int32) < 0 ∨ cl137.slots.size ≤ ((0 : Int32)).toNatClampNeg) := inb_of S137 ⟨by decide, by decide⟩
            obtain ⟨T138, h138, X138, e138, W138, st138⟩ := stC X132 hx hZ e132 Ar137 (j := (0 : Int32)) hin137  (g := (mkF m 157 #[.val (.int c0), .val (.int c1), .val (.int c2), .val (.int c3), .val (.int c4), .val (.int c5), .val (.int (Int32.ofNat nn))] [(.int c0), (.int (0 : Int32)), (.ref b132), (.ref b132), (.ref b131), (.ref b131)])) rfl rfl (hb hby d2_157)
            have V138 : Arv Z h138 b132 k132 .char (6 : Int32) [(.int (nar .char c0)), (.int (0 : Int32)), (.int (0 : Int32)), (.int (0 : Int32)), (.int (0 : Int32)), (.int (0 : Int32))] (.int (0 : Int32)) := (Arv.set Ar137 q137 S137 NN137 HH137 GG137 (fits_nar_char _) W138 0 rfl (Nat.le_of_ble_eq_true rfl))
            have c139 : Exa Z h138 b131 "java/lang/String" := c134.wr W138
            have c140 : Fld Z h138 b131 "java/lang/String" "coder" "B" (.int (0 : Int32)) := c135.other W138 (Or.inl ne133)
            have c141 : Fld Z h138 b131 "java/lang/String" "value" "[B" .null := c136.other W138 (Or.inl ne133)
            have Z138 : n0 ≤ h138.size := Nat.le_trans Z132 (Keep.of_wr W138).1
            have N138 := Fr.snoc X138 N0 g_b132
            have K138 : Keep h0 h138 [] := K132.wr W138 (Or.inr sz_b132)
            obtain ⟨cl142, Ar142, q142, S142, NN142, HH142, GG142⟩ := id V138
            have hin142 : ¬ ((1 : Int32) < 0 ∨ cl142.slots.size ≤ ((1 : Int32)).toNatClampNeg) := inb_of S142 ⟨by decide, by decide⟩
            obtain ⟨T143, h143, X143, e143, W143, st143⟩ := stC X138 hx hZ e138 Ar142 (j := (1 : Int32)) hin142  (g := (mkF m 161 #[.val (.int c0), .val (.int c1), .val (.int c2), .val (.int c3), .val (.int c4), .val (.int c5), .val (.int (Int32.ofNat nn))] [(.int c1), (.int (1 : Int32)), (.ref b132), (.ref b132), (.ref b131), (.ref b131)])) rfl rfl (hb hby d2_161)
            have V143 : Arv Z h143 b132 k132 .char (6 : Int32) [(.int (nar .char c0)), (.int (nar .char c1)), (.int (0 : Int32)), (.int (0 : Int32)), (.int (0 : Int32)), (.int (0 : Int32))] (.int (0 : Int32)) := (Arv.set Ar142 q142 S142 NN142 HH142 GG142 (fits_nar_char _) W143 1 rfl (Nat.le_of_ble_eq_true rfl))
            have c144 : Exa Z h143 b131 "java/lang/String" := c139.wr W143
            have c145 : Fld Z h143 b131 "java/lang/String" "coder" "B" (.int (0 : Int32)) := c140.other W143 (Or.inl ne133)
            have c146 : Fld Z h143 b131 "java/lang/String" "value" "[B" .null := c141.other W143 (Or.inl ne133)
            have Z143 : n0 ≤ h143.size := Nat.le_trans Z138 (Keep.of_wr W143).1
            have N143 := Fr.snoc X143 N138 g_b132
            have K143 : Keep h0 h143 [] := K138.wr W143 (Or.inr sz_b132)
            obtain ⟨cl147, Ar147, q147, S147, NN147, HH147, GG147⟩ := id V143
            have hin147 : ¬ ((2 : Int32) < 0 ∨ cl147.slots.size ≤ ((2 : Int32)).toNatClampNeg) := inb_of S147 ⟨by decide, by decide⟩
            obtain ⟨T148, h148, X148, e148, W148, st148⟩ := stC X143 hx hZ e143 Ar147 (j := (2 : Int32)) hin147  (g := (mkF m 165 #[.val (.int c0), .val (.int c1), .val (.int c2), .val (.int c3), .val (.int c4), .val (.int c5), .val (.int (Int32.ofNat nn))] [(.int c2), (.int (2 : Int32)), (.ref b132), (.ref b132), (.ref b131), (.ref b131)])) rfl rfl (hb hby d2_165)
            have V148 : Arv Z h148 b132 k132 .char (6 : Int32) [(.int (nar .char c0)), (.int (nar .char c1)), (.int (nar .char c2)), (.int (0 : Int32)), (.int (0 : Int32)), (.int (0 : Int32))] (.int (0 : Int32)) := (Arv.set Ar147 q147 S147 NN147 HH147 GG147 (fits_nar_char _) W148 2 rfl (Nat.le_of_ble_eq_true rfl))
            have c149 : Exa Z h148 b131 "java/lang/String" := c144.wr W148
            have c150 : Fld Z h148 b131 "java/lang/String" "coder" "B" (.int (0 : Int32)) := c145.other W148 (Or.inl ne133)
            have c151 : Fld Z h148 b131 "java/lang/String" "value" "[B" .null := c146.other W148 (Or.inl ne133)
            have Z148 : n0 ≤ h148.size := Nat.le_trans Z143 (Keep.of_wr W148).1
            have N148 := Fr.snoc X148 N143 g_b132
            have K148 : Keep h0 h148 [] := K143.wr W148 (Or.inr sz_b132)
            obtain ⟨cl152, Ar152, q152, S152, NN152, HH152, GG152⟩ := id V148
            have hin152 : ¬ ((3 : Int32) < 0 ∨ cl152.slots.size ≤ ((3 : Int32)).toNatClampNeg) := inb_of S152 ⟨by decide, by decide⟩
            obtain ⟨T153, h153, X153, e153, W153, st153⟩ := stC X148 hx hZ e148 Ar152 (j := (3 : Int32)) hin152  (g := (mkF m 169 #[.val (.int c0), .val (.int c1), .val (.int c2), .val (.int c3), .val (.int c4), .val (.int c5), .val (.int (Int32.ofNat nn))] [(.int c3), (.int (3 : Int32)), (.ref b132), (.ref b132), (.ref b131), (.ref b131)])) rfl rfl (hb hby d2_169)
            have V153 : Arv Z h153 b132 k132 .char (6 : Int32) [(.int (nar .char c0)), (.int (nar .char c1)), (.int (nar .char c2)), (.int (nar .char c3)), (.int (0 : Int32)), (.int (0 : Int32))] (.int (0 : Int32)) := (Arv.set Ar152 q152 S152 NN152 HH152 GG152 (fits_nar_char _) W153 3 rfl (Nat.le_of_ble_eq_true rfl))
            have c154 : Exa Z h153 b131 "java/lang/String" := c149.wr W153
            have c155 : Fld Z h153 b131 "java/lang/String" "coder" "B" (.int (0 : Int32)) := c150.other W153 (Or.inl ne133)
            have c156 : Fld Z h153 b131 "java/lang/String" "value" "[B" .null := c151.other W153 (Or.inl ne133)
            have Z153 : n0 ≤ h153.size := Nat.le_trans Z148 (Keep.of_wr W153).1
            have N153 := Fr.snoc X153 N148 g_b132
            have K153 : Keep h0 h153 [] := K148.wr W153 (Or.inr sz_b132)
            obtain ⟨cl157, Ar157, q157, S157, NN157, HH157, GG157⟩ := id V153
            have hin157 : ¬ ((4 : Int32) < 0 ∨ cl157.slots.size ≤ ((4 : Int32)).toNatClampNeg) := inb_of S157 ⟨by decide, by decide⟩
            obtain ⟨T158, h158, X158, e158, W158, st158⟩ := stC X153 hx hZ e153 Ar157 (j := (4 : Int32)) hin157  (g := (mkF m 174 #[.val (.int c0), .val (.int c1), .val (.int c2), .val (.int c3), .val (.int c4), .val (.int c5), .val (.int (Int32.ofNat nn))] [(.int c4), (.int (4 : Int32)), (.ref b132), (.ref b132), (.ref b131), (.ref b131)])) rfl rfl (hb hby d2_174)
            have V158 : Arv Z h158 b132 k132 .char (6 : Int32) [(.int (nar .char c0)), (.int (nar .char c1)), (.int (nar .char c2)), (.int (nar .char c3)), (.int (nar .char c4)), (.int (0 : Int32))] (.int (0 : Int32)) := (Arv.set Ar157 q157 S157 NN157 HH157 GG157 (fits_nar_char _) W158 4 rfl (Nat.le_of_ble_eq_true rfl))
            have c159 : Exa Z h158 b131 "java/lang/String" := c154.wr W158
            have c160 : Fld Z h158 b131 "java/lang/String" "coder" "B" (.int (0 : Int32)) := c155.other W158 (Or.inl ne133)
            have c161 : Fld Z h158 b131 "java/lang/String" "value" "[B" .null := c156.other W158 (Or.inl ne133)
            have Z158 : n0 ≤ h158.size := Nat.le_trans Z153 (Keep.of_wr W158).1
            have N158 := Fr.snoc X158 N153 g_b132
            have K158 : Keep h0 h158 [] := K153.wr W158 (Or.inr sz_b132)
            obtain ⟨cl162, Ar162, q162, S162, NN162, HH162, GG162⟩ := id V158
            have hin162 : ¬ ((5 : Int32) < 0 ∨ cl162.slots.size ≤ ((5 : Int32)).toNatClampNeg) := inb_of S162 ⟨by decide, by decide⟩
            obtain ⟨T163, h163, X163, e163, W163, st163⟩ := stC X158 hx hZ e158 Ar162 (j := (5 : Int32)) hin162  (g := (mkF m 179 #[.val (.int c0), .val (.int c1), .val (.int c2), .val (.int c3), .val (.int c4), .val (.int c5), .val (.int (Int32.ofNat nn))] [(.int c5), (.int (5 : Int32)), (.ref b132), (.ref b132), (.ref b131), (.ref b131)])) rfl rfl (hb hby d2_179)
            have V163 : Arv Z h163 b132 k132 .char (6 : Int32) [(.int (nar .char c0)), (.int (nar .char c1)), (.int (nar .char c2)), (.int (nar .char c3)), (.int (nar .char c4)), (.int (nar .char c5))] (.int (0 : Int32)) := (Arv.set Ar162 q162 S162 NN162 HH162 GG162 (fits_nar_char _) W163 5 rfl (Nat.le_of_ble_eq_true rfl))
            have c164 : Exa Z h163 b131 "java/lang/String" := c159.wr W163
            have c165 : Fld Z h163 b131 "java/lang/String" "coder" "B" (.int (0 : Int32)) := c160.other W163 (Or.inl ne133)
            have c166 : Fld Z h163 b131 "java/lang/String" "value" "[B" .null := c161.other W163 (Or.inl ne133)
            have Z163 : n0 ≤ h163.size := Nat.le_trans Z158 (Keep.of_wr W163).1
            have N163 := Fr.snoc X163 N158 g_b132
            have K163 : Keep h0 h163 [] := K158.wr W163 (Or.inr sz_b132)
            have hws167 : ∀ d ∈ StrChars.Road.words, d.before a0 Z = true := fun d hd => hw d ((by decide +kernel : ∀ d ∈ StrChars.Road.words, d ∈ tables_1) d hd)
            have hp167 : ∀ c ∈ ([(nar .char c0), (nar .char c1), (nar .char c2), (nar .char c3), (nar .char c4), (nar .char c5)] : List Int32), ¬ c < 0 ∧ ¬ (255 : Int32) < c := fun c hc => ho c (List.mem_of_mem_take (i := 6) hc)
            obtain ⟨_, _, ⟨T167, L167, k167, n167⟩, -, X167, ⟨Lc167, hQ167, l167, y167, z167⟩, st167⟩ := X163.specialBack hx (y := (⟨"java/lang/String", "<init>", "([C)V"⟩ : MethodName)) rfl hown (mvT hZ (hw _ (List.mem_of_getElem? (i := 13) rfl))) (mvT hZ (hw _ (List.mem_of_getElem? (i := 14) rfl))) (mvT hZ (hw _ (List.mem_of_getElem? (i := 15) rfl))) (by decide) (StrChars.Road.backV (W := 1) hZ hws167 (kI := 4) (hw _ (List.mem_of_getElem? (i := 10) rfl)) (cs := ([(nar .char c0), (nar .char c1), (nar .char c2), (nar .char c3), (nar .char c4), (nar .char c5)] : List Int32)) (bs := (([(nar .char c0), (nar .char c1), (nar .char c2), (nar .char c3), (nar .char c4), (nar .char c5)] : List Int32)).map (fun c => c.toInt8.toInt32)) (n := 6) g_b131 Z163 c164 c166 c165 V163 (own_sta_keep S_cs K163) hcs rfl rfl (by decide) (by decide) hp167 rfl (by decide) (by decide)) (g := (mkF m 180 #[.val (.int c0), .val (.int c1), .val (.int c2), .val (.int c3), .val (.int c4), .val (.int c5), .val (.int (Int32.ofNat nn))] [(.ref b132), (.ref b131), (.ref b131)])) rfl (by rw [hml]; rfl) (Steps.refl _) (a := b131) (argsL := [(.ref b132)]) (rest := [(.ref b131)]) (lenOf pd_0 rfl) rfl (by show 2 * 0 + _ ≤ _; exact Nat.le_of_eq rfl) (hb hby d2_180) (fun _ _ => ⟨rfl, e163, (by decide : 2 + 1 ≤ _), (by decide : 10 + 6 ≤ _)⟩)
            dsimp only [Pt.U, Pt.locs, Pt.cells, Pt.slots] at X167 l167 y167 z167 st167 hQ167
            subst l167 y167 z167
            obtain ⟨rfl, N167q, K167q, f167_0, f167_1, t167, kb167, gt167, szt167, nt167, fv167, fb167⟩ := hQ167
            have N167 := Fr.app N163 N167q
            have Z167 : n0 ≤ T167.heap.size := Nat.le_trans Z163 K167q.1
            have c168 : Exa Z T167.heap b131 "java/lang/String" := c164.keep K167q
            have c169 : Arv Z T167.heap b132 k132 .char (6 : Int32) [(.int (nar .char c0)), (.int (nar .char c1)), (.int (nar .char c2)), (.int (nar .char c3)), (.int (nar .char c4)), (.int (nar .char c5))] (.int (0 : Int32)) := V163.keep K167q (ninS (Ne.symm ne133) nin0)
            have K167 : Keep h0 T167.heap [] := K163.trans K167q (allS (Or.inr sz_b131) all0)
            have sz_t167 : h0.size ≤ t167 := Nat.le_trans K163.1 szt167
            obtain ⟨fs, hr, hrun, hended, hW, hsame⟩ := X167.leave (v := some (.ref b131)) (fun h => by rw [Bd.returns] at h; cases h) (hlocks := BodyLoose.notSynchronized Bd)
            refine ⟨_, _, pre95 _ ?_, hrun, hended, _, _, rfl, ?_, ⟨_, rfl⟩, hW, hsame.mono (by decide) (by decide)⟩
            ·
              show Steps p.tables e below (s₁.setTop (mkF m 111 #[.val (.int c0), .val (.int c1), .val (.int c2), .val (.int c3), .val (.int c4), .val (.int c5), .val (.int (Int32.ofNat nn))] [(.int (5 : Int32)), (.int (Int32.ofNat nn))])) _
              refine XS.icmpYes X0.here hx rfl (pc0 := 111) (pc' := 146) rfl (hb hby d2_111) rfl (feq (hc96 : ¬ ((Int32.ofNat nn) = (5 : Int32)))).2 (by decide) (by decide) ?_
              show Steps p.tables e below (s₁.setTop (mkF m 146 #[.val (.int c0), .val (.int c1), .val (.int c2), .val (.int c3), .val (.int c4), .val (.int c5), .val (.int (Int32.ofNat nn))] [])) _
              refine st131 _ ?_
              show Steps p.tables e below (T131.setTop (mkF m 149 #[.val (.int c0), .val (.int c1), .val (.int c2), .val (.int c3), .val (.int c4), .val (.int c5), .val (.int (Int32.ofNat nn))] [(.ref b131)])) _
              refine XS.dup X131.here hx rfl (hb hby d2_149) rfl rfl ?_
              show Steps p.tables e below (T131.setTop (mkF m 150 #[.val (.int c0), .val (.int c1), .val (.int c2), .val (.int c3), .val (.int c4), .val (.int c5), .val (.int (Int32.ofNat nn))] [(.ref b131), (.ref b131)])) _
              refine XS.bipush X131.here hx rfl (hb hby d2_150) ?_
              show Steps p.tables e below (T131.setTop (mkF m 152 #[.val (.int c0), .val (.int c1), .val (.int c2), .val (.int c3), .val (.int c4), .val (.int c5), .val (.int (Int32.ofNat nn))] [(.int (6 : Int32)), (.ref b131), (.ref b131)])) _
              refine st132 _ ?_
              show Steps p.tables e below (T132.setTop (mkF m 154 #[.val (.int c0), .val (.int c1), .val (.int c2), .val (.int c3), .val (.int c4), .val (.int c5), .val (.int (Int32.ofNat nn))] [(.ref b132), (.ref b131), (.ref b131)])) _
              refine XS.dup X132.here hx rfl (hb hby d2_154) rfl rfl ?_
              show Steps p.tables e below (T132.setTop (mkF m 155 #[.val (.int c0), .val (.int c1), .val (.int c2), .val (.int c3), .val (.int c4), .val (.int c5), .val (.int (Int32.ofNat nn))] [(.ref b132), (.ref b132), (.ref b131), (.ref b131)])) _
              refine XS.iconst X132.here hx rfl (hb hby d2_155) ?_
              show Steps p.tables e below (T132.setTop (mkF m 156 #[.val (.int c0), .val (.int c1), .val (.int c2), .val (.int c3), .val (.int c4), .val (.int c5), .val (.int (Int32.ofNat nn))] [(.int (0 : Int32)), (.ref b132), (.ref b132), (.ref b131), (.ref b131)])) _
              refine XS.iloadN X132.here hx rfl (hb hby d2_156) rfl ?_
              show Steps p.tables e below (T132.setTop (mkF m 157 #[.val (.int c0), .val (.int c1), .val (.int c2), .val (.int c3), .val (.int c4), .val (.int c5), .val (.int (Int32.ofNat nn))] [(.int c0), (.int (0 : Int32)), (.ref b132), (.ref b132), (.ref b131), (.ref b131)])) _
              refine st138 _ ?_
              show Steps p.tables e below (T138.setTop (mkF m 158 #[.val (.int c0), .val (.int c1), .val (.int c2), .val (.int c3), .val (.int c4), .val (.int c5), .val (.int (Int32.ofNat nn))] [(.ref b132), (.ref b131), (.ref b131)])) _
              refine XS.dup X138.here hx rfl (hb hby d2_158) rfl rfl ?_
              show Steps p.tables e below (T138.setTop (mkF m 159 #[.val (.int c0), .val (.int c1), .val (.int c2), .val (.int c3), .val (.int c4), .val (.int c5), .val (.int (Int32.ofNat nn))] [(.ref b132), (.ref b132), (.ref b131), (.ref b131)])) _
              refine XS.iconst X138.here hx rfl (hb hby d2_159) ?_
              show Steps p.tables e below (T138.setTop (mkF m 160 #[.val (.int c0), .val (.int c1), .val (.int c2), .val (.int c3), .val (.int c4), .val (.int c5), .val (.int (Int32.ofNat nn))] [(.int (1 : Int32)), (.ref b132), (.ref b132), (.ref b131), (.ref b131)])) _
              refine XS.iloadN X138.here hx rfl (hb hby d2_160) rfl ?_
              show Steps p.tables e below (T138.setTop (mkF m 161 #[.val (.int c0), .val (.int c1), .val (.int c2), .val (.int c3), .val (.int c4), .val (.int c5), .val (.int (Int32.ofNat nn))] [(.int c1), (.int (1 : Int32)), (.ref b132), (.ref b132), (.ref b131), (.ref b131)])) _
              refine st143 _ ?_
              show Steps p.tables e below (T143.setTop (mkF m 162 #[.val (.int c0), .val (.int c1), .val (.int c2), .val (.int c3), .val (.int c4), .val (.int c5), .val (.int (Int32.ofNat nn))] [(.ref b132), (.ref b131), (.ref b131)])) _
              refine XS.dup X143.here hx rfl (hb hby d2_162) rfl rfl ?_
              show Steps p.tables e below (T143.setTop (mkF m 163 #[.val (.int c0), .val (.int c1), .val (.int c2), .val (.int c3), .val (.int c4), .val (.int c5), .val (.int (Int32.ofNat nn))] [(.ref b132), (.ref b132), (.ref b131), (.ref b131)])) _
              refine XS.iconst X143.here hx rfl (hb hby d2_163) ?_
              show Steps p.tables e below (T143.setTop (mkF m 164 #[.val (.int c0), .val (.int c1), .val (.int c2), .val (.int c3), .val (.int c4), .val (.int c5), .val (.int (Int32.ofNat nn))] [(.int (2 : Int32)), (.ref b132), (.ref b132), (.ref b131), (.ref b131)])) _
              refine XS.iloadN X143.here hx rfl (hb hby d2_164) rfl ?_
              show Steps p.tables e below (T143.setTop (mkF m 165 #[.val (.int c0), .val (.int c1), .val (.int c2), .val (.int c3), .val (.int c4), .val (.int c5), .val (.int (Int32.ofNat nn))] [(.int c2), (.int (2 : Int32)), (.ref b132), (.ref b132), (.ref b131), (.ref b131)])) _
              refine st148 _ ?_
              show Steps p.tables e below (T148.setTop (mkF m 166 #[.val (.int c0), .val (.int c1), .val (.int c2), .val (.int c3), .val (.int c4), .val (.int c5), .val (.int (Int32.ofNat nn))] [(.ref b132), (.ref b131), (.ref b131)])) _
              refine XS.dup X148.here hx rfl (hb hby d2_166) rfl rfl ?_
              show Steps p.tables e below (T148.setTop (mkF m 167 #[.val (.int c0), .val (.int c1), .val (.int c2), .val (.int c3), .val (.int c4), .val (.int c5), .val (.int (Int32.ofNat nn))] [(.ref b132), (.ref b132), (.ref b131), (.ref b131)])) _
              refine XS.iconst X148.here hx rfl (hb hby d2_167) ?_
              show Steps p.tables e below (T148.setTop (mkF m 168 #[.val (.int c0), .val (.int c1), .val (.int c2), .val (.int c3), .val (.int c4), .val (.int c5), .val (.int (Int32.ofNat nn))] [(.int (3 : Int32)), (.ref b132), (.ref b132), (.ref b131), (.ref b131)])) _
              refine XS.iloadN X148.here hx rfl (hb hby d2_168) rfl ?_
              show Steps p.tables e below (T148.setTop (mkF m 169 #[.val (.int c0), .val (.int c1), .val (.int c2), .val (.int c3), .val (.int c4), .val (.int c5), .val (.int (Int32.ofNat nn))] [(.int c3), (.int (3 : Int32)), (.ref b132), (.ref b132), (.ref b131), (.ref b131)])) _
              refine st153 _ ?_
              show Steps p.tables e below (T153.setTop (mkF m 170 #[.val (.int c0), .val (.int c1), .val (.int c2), .val (.int c3), .val (.int c4), .val (.int c5), .val (.int (Int32.ofNat nn))] [(.ref b132), (.ref b131), (.ref b131)])) _
              refine XS.dup X153.here hx rfl (hb hby d2_170) rfl rfl ?_
              show Steps p.tables e below (T153.setTop (mkF m 171 #[.val (.int c0), .val (.int c1), .val (.int c2), .val (.int c3), .val (.int c4), .val (.int c5), .val (.int (Int32.ofNat nn))] [(.ref b132), (.ref b132), (.ref b131), (.ref b131)])) _
              refine XS.iconst X153.here hx rfl (hb hby d2_171) ?_
              show Steps p.tables e below (T153.setTop (mkF m 172 #[.val (.int c0), .val (.int c1), .val (.int c2), .val (.int c3), .val (.int c4), .val (.int c5), .val (.int (Int32.ofNat nn))] [(.int (4 : Int32)), (.ref b132), (.ref b132), (.ref b131), (.ref b131)])) _
              refine XS.iload X153.here hx rfl (hb hby d2_172) rfl ?_
              show Steps p.tables e below (T153.setTop (mkF m 174 #[.val (.int c0), .val (.int c1), .val (.int c2), .val (.int c3), .val (.int c4), .val (.int c5), .val (.int (Int32.ofNat nn))] [(.int c4), (.int (4 : Int32)), (.ref b132), (.ref b132), (.ref b131), (.ref b131)])) _
              refine st158 _ ?_
              show Steps p.tables e below (T158.setTop (mkF m 175 #[.val (.int c0), .val (.int c1), .val (.int c2), .val (.int c3), .val (.int c4), .val (.int c5), .val (.int (Int32.ofNat nn))] [(.ref b132), (.ref b131), (.ref b131)])) _
              refine XS.dup X158.here hx rfl (hb hby d2_175) rfl rfl ?_
              show Steps p.tables e below (T158.setTop (mkF m 176 #[.val (.int c0), .val (.int c1), .val (.int c2), .val (.int c3), .val (.int c4), .val (.int c5), .val (.int (Int32.ofNat nn))] [(.ref b132), (.ref b132), (.ref b131), (.ref b131)])) _
              refine XS.iconst X158.here hx rfl (hb hby d2_176) ?_
              show Steps p.tables e below (T158.setTop (mkF m 177 #[.val (.int c0), .val (.int c1), .val (.int c2), .val (.int c3), .val (.int c4), .val (.int c5), .val (.int (Int32.ofNat nn))] [(.int (5 : Int32)), (.ref b132), (.ref b132), (.ref b131), (.ref b131)])) _
              refine XS.iload X158.here hx rfl (hb hby d2_177) rfl ?_
              show Steps p.tables e below (T158.setTop (mkF m 179 #[.val (.int c0), .val (.int c1), .val (.int c2), .val (.int c3), .val (.int c4), .val (.int c5), .val (.int (Int32.ofNat nn))] [(.int c5), (.int (5 : Int32)), (.ref b132), (.ref b132), (.ref b131), (.ref b131)])) _
              refine st163 _ ?_
              show Steps p.tables e below (T163.setTop (mkF m 180 #[.val (.int c0), .val (.int c1), .val (.int c2), .val (.int c3), .val (.int c4), .val (.int c5), .val (.int (Int32.ofNat nn))] [(.ref b132), (.ref b131), (.ref b131)])) _
              refine st167.trans ?_
              show Steps p.tables e below (T167.setTop (mkF m 183 #[.val (.int c0), .val (.int c1), .val (.int c2), .val (.int c3), .val (.int c4), .val (.int c5), .val (.int (Int32.ofNat nn))] [(.ref b131)])) _
              exact retOut X167 hx (t := (.object "java/lang/String")) (i := .areturn) Bd.returns rfl (Or.inr (Or.inr (Or.inr (Or.inr ⟨rfl, rfl, rfl⟩)))) (hb hby d2_183) hr
            ·
              show Q2 Z c0 c1 c2 c3 c4 c5 nn vz h0 n0 _ T167.heap _
              exact ⟨(by
      obtain rfl : nn = 6 := own_six h1n hn6 hc2 hc18 hc39 hc65 hc96
      exact ⟨b131, t167, kb167, rfl, sz_b131, sz_t167, nt167, f167_0, f167_1, fv167, fb167⟩), N167, K167⟩
def own_pad (cs : List Int32) (i : Nat) : Int32 := if i < cs.length then cs.getD i 0 else (32 : Int32)
def own_chk (cs : List Int32) : Nat → Nat → Int64 → Int64
  | 0, _, acc => acc
  | k + 1, i, acc => own_chk cs k (i + 1) (own_wc acc (Int32.ofNat i) (own_pad cs i))
theorem own_os6 {z0 z1 z2 z5 : Value} {q : Int64} {s6 : Slot} {v : Int32} (h : One s6) : storeLocals #[.val z0, .val z1, .val z2, .val (.long q), .second, .val z5, s6] 6 (.int v) = some #[.val z0, .val z1, .val z2, .val (.long q), .second, .val z5, .val (.int v)] := by
  rcases h with rfl | ⟨w, rfl, hw⟩
  · rfl
  · cases w <;> first | rfl | (simp [Value.category] at hw)
theorem d9_27 : decode prog_1_method_1_code 27 = .ok (.iload_n 3, 1) := by decide +kernel
theorem d9_28 : decode prog_1_method_1_code 28 = .ok (.aload_n 1, 1) := by decide +kernel
theorem pd_1 : parseMethodDescriptor "()I" = some ⟨[], some .int⟩ := by decide +kernel
theorem d9_29 : decode prog_1_method_1_code 29 = .ok (.invokevirtual 13, 3) := by decide +kernel
theorem d9_32 : decode prog_1_method_1_code 32 = .ok (.if_icmp .ge 25, 3) := by decide +kernel
theorem d9_35 : decode prog_1_method_1_code 35 = .ok (.aload_n 1, 1) := by decide +kernel
theorem d9_36 : decode prog_1_method_1_code 36 = .ok (.iload_n 3, 1) := by decide +kernel
theorem pd_2 : parseMethodDescriptor "(I)C" = some ⟨[.int], some .char⟩ := by decide +kernel
theorem d9_37 : decode prog_1_method_1_code 37 = .ok (.invokevirtual 23, 3) := by decide +kernel
theorem pd_3 : parseMethodDescriptor "(I)Z" = some ⟨[.int], some .boolean⟩ := by decide +kernel
theorem d9_40 : decode prog_1_method_1_code 40 = .ok (.invokestatic 27, 3) := by decide +kernel
theorem d9_43 : decode prog_1_method_1_code 43 = .ok (.ifCond .ne 8, 3) := by decide +kernel
theorem d9_51 : decode prog_1_method_1_code 51 = .ok (.iinc 3 1, 3) := by decide +kernel
theorem d9_54 : decode prog_1_method_1_code 54 = .ok (.goto (-27), 3) := by decide +kernel
set_option maxRecDepth 65536 in
set_option maxHeartbeats 40000000 in
theorem own_l1 {p : Program} {l : Launch} {e : Env} {s : State} {m : MethodId} {args : Array Value} {below : List Frame} {meth : Method} {c : Code} {Z : State} {a0 : Array Value} {n0 : Nat} (hx : p.tables.exec = Jvm.exec) (hZ : Z.Warmed39 s.vm) (hw : ∀ d ∈ tables_1, d.before a0 Z = true) (hby : c.code = prog_1_method_1_code) (hml : c.maxLocals = 7) (hown : s.vm.findClass "com/example/packet_radio_link/packetradiolink/frame/Address" = some m.cls) (va vt vb : Addr) (kb : ClassId) (NN : Int32) (cs : List Int32) (vz : Int32) (fm : Value) (vss : Int32) (hcd : StrChars.Road.CodA cs 0 NN (List.map Value.int (List.map (fun c => c.toInt8.toInt32) cs))) (hbd : ∀ c ∈ cs, ¬ c < 0 ∧ ¬ (65535 : Int32) < c) (hcs : ¬ vz = 0) (rfm : fm.isRef = true) (hl4 : cs.length ≤ 4000) (hl1 : 1 ≤ cs.length) (hl6 : cs.length ≤ 6) (hok : ∀ i, i < cs.length → ¬ own_csc (cs.getD i 0) = (0 : Int32)) :
    ∀ (k : Nat) (i : Nat) (T0 : State) (locs : List Loc) (h0 : Heap), Stand p l e ({ frames := 4, cells := 0, slots := 0, locals := 53 } : Room) s m args below meth c T0 locs 0 0 → T0.heap = h0 → Fr n0 locs → n0 ≤ h0.size → (i + k = cs.length) → (Exa Z h0 vt "java/lang/String") → (Fld Z h0 vt "java/lang/String" "value" "[B" (.ref vb)) → (Fld Z h0 vt "java/lang/String" "coder" "B" (.int (0 : Int32))) → (Arv Z h0 vb kb .byte NN (List.map Value.int (List.map (fun c => c.toInt8.toInt32) cs)) (.int (0 : Int32))) → (Sta Z h0 "java/lang/String" "COMPACT_STRINGS" "Z" (.int vz)) → (Sta Z h0 "jdk/internal/util/Preconditions" "SIOOBE_FORMATTER" "Ljava/util/function/BiFunction;" fm) → 
      ∃ (T' : State) (h' : Heap) (locs' : List Loc), Stand p l e ({ frames := 4, cells := 0, slots := 0, locals := 53 } : Room) s m args below meth c T' locs' 0 0 ∧ T'.heap = h' ∧ Fr n0 locs' ∧ Keep h0 h' [] ∧ (h' = h0) ∧ ∀ t, Steps p.tables e below (T'.setTop (mkF m 57 #[.val (.ref va), .val (.ref vt), .val (.int vss), .val (.int (Int32.ofNat cs.length)), .unset, .unset, .unset] [])) t → Steps p.tables e below (T0.setTop (mkF m 27 #[.val (.ref va), .val (.ref vt), .val (.int vss), .val (.int (Int32.ofNat i)), .unset, .unset, .unset] [])) t := by
  intro k
  induction k with
  | zero =>
    intro i T0 locs h0 X0 e0 N0 Z0 hik Et Ftv Ftc Vb S_cs S_fm
    obtain rfl : i = cs.length := by omega
    have pre0 : ∀ t, Steps p.tables e below (T0.setTop (mkF m 27 #[.val (.ref va), .val (.ref vt), .val (.int vss), .val (.int (Int32.ofNat cs.length)), .unset, .unset, .unset] [])) t → Steps p.tables e below (T0.setTop (mkF m 27 #[.val (.ref va), .val (.ref vt), .val (.int vss), .val (.int (Int32.ofNat cs.length)), .unset, .unset, .unset] [])) t := fun t k => k
    have hln1 : ∀ d ∈ StrChars.Road.wordsLen, d.before a0 Z = true := fun d hd => hw d ((by decide +kernel : ∀ d ∈ StrChars.Road.wordsLen, d ∈ tables_1) d hd)
    obtain ⟨cq1, kq1, q1a, q1b, q1c⟩ := isOf hZ e0 Et
    obtain ⟨_, _, ⟨T1, L1, k1, n1⟩, -, X1, ⟨Lc1, hQ1, l1, y1, z1⟩, st1⟩ := X0.virtualBack hx (y := (⟨"java/lang/String", "length", "()I"⟩ : MethodName)) (z := (⟨"java/lang/String", "length", "()I"⟩ : MethodName)) hown (mvT hZ (hw _ (List.mem_of_getElem? (i := 51) rfl))) (mvT hZ (hw _ (List.mem_of_getElem? (i := 52) rfl))) (notFace_of_selects (args := #[]) (mvT hZ (hw _ (List.mem_of_getElem? (i := 54) rfl)))) (mvT hZ (hw _ (List.mem_of_getElem? (i := 54) rfl))) (mvT hZ (hw _ (List.mem_of_getElem? (i := 53) rfl))) (by decide) (StrChars.Road.lenW (W := 1) hZ hln1 (kI := 4) (hw _ (List.mem_of_getElem? (i := 10) rfl)) Et Ftv Ftc Vb hcd hbd S_cs hcs hl4 (by decide) (by decide)) q1a q1c (g := (mkF m 29 #[.val (.ref va), .val (.ref vt), .val (.int vss), .val (.int (Int32.ofNat cs.length)), .unset, .unset, .unset] [(.ref vt), (.int (Int32.ofNat cs.length))])) rfl (by rw [hml]; rfl) (Steps.refl _) (argsL := []) (rest := [(.int (Int32.ofNat cs.length))]) (lenOf pd_1 rfl) rfl (by show 2 * 0 + _ ≤ _; exact Nat.le_of_eq rfl) (hb hby d9_29) (fun _ _ => ⟨rfl, e0, (by decide : 0 + 0 ≤ _), (by decide : 0 + 0 ≤ _)⟩)
    dsimp only [Pt.U, Pt.locs, Pt.cells, Pt.slots] at X1 l1 y1 z1 st1 hQ1
    subst l1 y1 z1
    obtain ⟨rfl, rfl, e1q⟩ := hQ1
    have N1 := Fr.app N0 (Fr.nil n0)
    have pre2 : ∀ t, Steps p.tables e below (T1.setTop (mkF m 57 #[.val (.ref va), .val (.ref vt), .val (.int vss), .val (.int (Int32.ofNat cs.length)), .unset, .unset, .unset] [])) t → Steps p.tables e below (T0.setTop (mkF m 27 #[.val (.ref va), .val (.ref vt), .val (.int vss), .val (.int (Int32.ofNat cs.length)), .unset, .unset, .unset] [])) t := by
      intro t kt
      refine pre0 t ?_
      show Steps p.tables e below (T0.setTop (mkF m 27 #[.val (.ref va), .val (.ref vt), .val (.int vss), .val (.int (Int32.ofNat cs.length)), .unset, .unset, .unset] [])) _
      refine XS.iloadN X0.here hx rfl (hb hby d9_27) rfl ?_
      show Steps p.tables e below (T0.setTop (mkF m 28 #[.val (.ref va), .val (.ref vt), .val (.int vss), .val (.int (Int32.ofNat cs.length)), .unset, .unset, .unset] [(.int (Int32.ofNat cs.length))])) _
      refine XS.aloadN X0.here hx rfl (hb hby d9_28) rfl rfl ?_
      show Steps p.tables e below (T0.setTop (mkF m 29 #[.val (.ref va), .val (.ref vt), .val (.int vss), .val (.int (Int32.ofNat cs.length)), .unset, .unset, .unset] [(.ref vt), (.int (Int32.ofNat cs.length))])) _
      refine st1.trans ?_
      show Steps p.tables e below (T1.setTop (mkF m 32 #[.val (.ref va), .val (.ref vt), .val (.int vss), .val (.int (Int32.ofNat cs.length)), .unset, .unset, .unset] [(.int (Int32.ofNat cs.length)), (.int (Int32.ofNat cs.length))])) _
      refine XS.icmpYes X1.here hx rfl (pc0 := 32) (pc' := 57) rfl (hb hby d9_32) rfl (flt (Int32.lt_irrefl : ¬ ((Int32.ofNat cs.length) < (Int32.ofNat cs.length)))).2.1 (by decide) (by decide) ?_
      exact kt
    exact ⟨T1, h0, _, X1, e1q, N1, (Keep.refl h0 []), rfl, fun t kt => pre2 t kt⟩
  | succ k ih =>
    intro i T0 locs h0 X0 e0 N0 Z0 hik Et Ftv Ftc Vb S_cs S_fm
    have pre0 : ∀ t, Steps p.tables e below (T0.setTop (mkF m 27 #[.val (.ref va), .val (.ref vt), .val (.int vss), .val (.int (Int32.ofNat i)), .unset, .unset, .unset] [])) t → Steps p.tables e below (T0.setTop (mkF m 27 #[.val (.ref va), .val (.ref vt), .val (.int vss), .val (.int (Int32.ofNat i)), .unset, .unset, .unset] [])) t := fun t k => k
    have hln3 : ∀ d ∈ StrChars.Road.wordsLen, d.before a0 Z = true := fun d hd => hw d ((by decide +kernel : ∀ d ∈ StrChars.Road.wordsLen, d ∈ tables_1) d hd)
    obtain ⟨cq3, kq3, q3a, q3b, q3c⟩ := isOf hZ e0 Et
    obtain ⟨_, _, ⟨T3, L3, k3, n3⟩, -, X3, ⟨Lc3, hQ3, l3, y3, z3⟩, st3⟩ := X0.virtualBack hx (y := (⟨"java/lang/String", "length", "()I"⟩ : MethodName)) (z := (⟨"java/lang/String", "length", "()I"⟩ : MethodName)) hown (mvT hZ (hw _ (List.mem_of_getElem? (i := 51) rfl))) (mvT hZ (hw _ (List.mem_of_getElem? (i := 52) rfl))) (notFace_of_selects (args := #[]) (mvT hZ (hw _ (List.mem_of_getElem? (i := 54) rfl)))) (mvT hZ (hw _ (List.mem_of_getElem? (i := 54) rfl))) (mvT hZ (hw _ (List.mem_of_getElem? (i := 53) rfl))) (by decide) (StrChars.Road.lenW (W := 1) hZ hln3 (kI := 4) (hw _ (List.mem_of_getElem? (i := 10) rfl)) Et Ftv Ftc Vb hcd hbd S_cs hcs hl4 (by decide) (by decide)) q3a q3c (g := (mkF m 29 #[.val (.ref va), .val (.ref vt), .val (.int vss), .val (.int (Int32.ofNat i)), .unset, .unset, .unset] [(.ref vt), (.int (Int32.ofNat i))])) rfl (by rw [hml]; rfl) (Steps.refl _) (argsL := []) (rest := [(.int (Int32.ofNat i))]) (lenOf pd_1 rfl) rfl (by show 2 * 0 + _ ≤ _; exact Nat.le_of_eq rfl) (hb hby d9_29) (fun _ _ => ⟨rfl, e0, (by decide : 0 + 0 ≤ _), (by decide : 0 + 0 ≤ _)⟩)
    dsimp only [Pt.U, Pt.locs, Pt.cells, Pt.slots] at X3 l3 y3 z3 st3 hQ3
    subst l3 y3 z3
    obtain ⟨rfl, rfl, e3q⟩ := hQ3
    have N3 := Fr.app N0 (Fr.nil n0)
    have hch4 : ∀ d ∈ StrChars.Road.wordsChN, d.before a0 Z = true := fun d hd => hw d ((by decide +kernel : ∀ d ∈ StrChars.Road.wordsChN, d ∈ tables_1) d hd)
    obtain ⟨cq4, kq4, q4a, q4b, q4c⟩ := isOf hZ e3q Et
    obtain ⟨_, _, ⟨T4, L4, k4, n4⟩, -, X4, ⟨Lc4, hQ4, l4, y4, z4⟩, st4⟩ := X3.virtualBack hx (y := (⟨"java/lang/String", "charAt", "(I)C"⟩ : MethodName)) (z := (⟨"java/lang/String", "charAt", "(I)C"⟩ : MethodName)) hown (mvT hZ (hw _ (List.mem_of_getElem? (i := 61) rfl))) (mvT hZ (hw _ (List.mem_of_getElem? (i := 62) rfl))) (notFace_of_selects (args := #[]) (mvT hZ (hw _ (List.mem_of_getElem? (i := 64) rfl)))) (mvT hZ (hw _ (List.mem_of_getElem? (i := 64) rfl))) (mvT hZ (hw _ (List.mem_of_getElem? (i := 63) rfl))) (by decide) (StrChars.Road.chN (W := 0) hZ hch4 (kI := 4) (hw _ (List.mem_of_getElem? (i := 10) rfl)) Et Ftv Ftc Vb hcd hbd S_cs hcs S_fm rfm hl4 (i := i) (by omega) (j := (Int32.ofNat i)) rfl (by decide) (by decide)) q4a q4c (g := (mkF m 37 #[.val (.ref va), .val (.ref vt), .val (.int vss), .val (.int (Int32.ofNat i)), .unset, .unset, .unset] [(.int (Int32.ofNat i)), (.ref vt)])) rfl (by rw [hml]; rfl) (Steps.refl _) (argsL := [(.int (Int32.ofNat i))]) (rest := []) (lenOf pd_2 rfl) rfl (by show 2 * 0 + _ ≤ _; exact Nat.le_of_eq rfl) (hb hby d9_37) (fun _ _ => ⟨rfl, e3q, (by decide : 0 + 0 ≤ _), (by decide : 0 + 0 ≤ _)⟩)
    dsimp only [Pt.U, Pt.locs, Pt.cells, Pt.slots] at X4 l4 y4 z4 st4 hQ4
    subst l4 y4 z4
    obtain ⟨rfl, rfl, e4q⟩ := hQ4
    have N4 := Fr.app N3 (Fr.nil n0)
    obtain ⟨_, _, ⟨T5, L5, k5, n5⟩, -, X5, ⟨Lc5, hQ5, l5, y5, z5⟩, st5⟩ := Jvm.LawKit.callS X4 hx (y := (⟨"com/example/packet_radio_link/packetradiolink/frame/Address", "isCallSignCharacter", "(I)Z"⟩ : MethodName)) hown (mvT hZ (hw _ (List.mem_of_getElem? (i := 83) rfl))) (mvT hZ (hw _ (List.mem_of_getElem? (i := 84) rfl))) (mvT hZ (hw _ (List.mem_of_getElem? (i := 41) rfl))) (mvT hZ (hw _ (List.mem_of_getElem? (i := 85) rfl))) (by decide) (backOf (W := 0) (rm18 l Z a0 hw [] (cs.getD i 0)  h0 n0 Z0 ) hZ (hw _ (List.mem_of_getElem? (i := 85) rfl)) (hw _ (List.mem_of_getElem? (i := 41) rfl)) (by decide) (by decide)) (g := (mkF m 40 #[.val (.ref va), .val (.ref vt), .val (.int vss), .val (.int (Int32.ofNat i)), .unset, .unset, .unset] [(.int (cs.getD i 0))])) rfl (by rw [hml]; rfl) (argsL := [(.int (cs.getD i 0))]) (rest := []) (lenOf pd_3 rfl) rfl (by show 2 * 0 + _ ≤ _; exact Nat.le_of_eq rfl) (hb hby d9_40) (fun _ _ => ⟨rfl, e4q, (by decide : 0 + 0 ≤ _), (by decide : 0 + 0 ≤ _)⟩)
    dsimp only [Pt.U, Pt.locs, Pt.cells, Pt.slots] at X5 l5 y5 z5 st5 hQ5
    subst l5 y5 z5
    obtain ⟨rfl, N5q, e5q⟩ := hQ5
    have N5 := Fr.app N4 N5q
    have pre6 : ∀ t, Steps p.tables e below (T5.setTop (mkF m 27 #[.val (.ref va), .val (.ref vt), .val (.int vss), .val (.int ((Int32.ofNat i) + (1 : Int32))), .unset, .unset, .unset] [])) t → Steps p.tables e below (T0.setTop (mkF m 27 #[.val (.ref va), .val (.ref vt), .val (.int vss), .val (.int (Int32.ofNat i)), .unset, .unset, .unset] [])) t := by
      intro t kt
      refine pre0 t ?_
      show Steps p.tables e below (T0.setTop (mkF m 27 #[.val (.ref va), .val (.ref vt), .val (.int vss), .val (.int (Int32.ofNat i)), .unset, .unset, .unset] [])) _
      refine XS.iloadN X0.here hx rfl (hb hby d9_27) rfl ?_
      show Steps p.tables e below (T0.setTop (mkF m 28 #[.val (.ref va), .val (.ref vt), .val (.int vss), .val (.int (Int32.ofNat i)), .unset, .unset, .unset] [(.int (Int32.ofNat i))])) _
      refine XS.aloadN X0.here hx rfl (hb hby d9_28) rfl rfl ?_
      show Steps p.tables e below (T0.setTop (mkF m 29 #[.val (.ref va), .val (.ref vt), .val (.int vss), .val (.int (Int32.ofNat i)), .unset, .unset, .unset] [(.ref vt), (.int (Int32.ofNat i))])) _
      refine st3.trans ?_
      show Steps p.tables e below (T3.setTop (mkF m 32 #[.val (.ref va), .val (.ref vt), .val (.int vss), .val (.int (Int32.ofNat i)), .unset, .unset, .unset] [(.int (Int32.ofNat cs.length)), (.int (Int32.ofNat i))])) _
      refine XS.icmpNo X3.here hx rfl (hb hby d9_32) rfl (tlt (((own_lt32 (by omega) (by omega)).mpr (by omega)) : (Int32.ofNat i) < (Int32.ofNat cs.length))).2.1 ?_
      show Steps p.tables e below (T3.setTop (mkF m 35 #[.val (.ref va), .val (.ref vt), .val (.int vss), .val (.int (Int32.ofNat i)), .unset, .unset, .unset] [])) _
      refine XS.aloadN X3.here hx rfl (hb hby d9_35) rfl rfl ?_
      show Steps p.tables e below (T3.setTop (mkF m 36 #[.val (.ref va), .val (.ref vt), .val (.int vss), .val (.int (Int32.ofNat i)), .unset, .unset, .unset] [(.ref vt)])) _
      refine XS.iloadN X3.here hx rfl (hb hby d9_36) rfl ?_
      show Steps p.tables e below (T3.setTop (mkF m 37 #[.val (.ref va), .val (.ref vt), .val (.int vss), .val (.int (Int32.ofNat i)), .unset, .unset, .unset] [(.int (Int32.ofNat i)), (.ref vt)])) _
      refine st4.trans ?_
      show Steps p.tables e below (T4.setTop (mkF m 40 #[.val (.ref va), .val (.ref vt), .val (.int vss), .val (.int (Int32.ofNat i)), .unset, .unset, .unset] [(.int (cs.getD i 0))])) _
      refine st5 _ ?_
      show Steps p.tables e below (T5.setTop (mkF m 43 #[.val (.ref va), .val (.ref vt), .val (.int vss), .val (.int (Int32.ofNat i)), .unset, .unset, .unset] [(.int (own_csc (cs.getD i 0)))])) _
      refine XS.ifYes X5.here hx rfl (pc0 := 43) (pc' := 51) rfl (hb hby d9_43) rfl ((if0 _ _).trans (feq ((hok i (by omega)) : ¬ ((own_csc (cs.getD i 0)) = (0 : Int32)))).2) (by decide) (by decide) ?_
      show Steps p.tables e below (T5.setTop (mkF m 51 #[.val (.ref va), .val (.ref vt), .val (.int vss), .val (.int (Int32.ofNat i)), .unset, .unset, .unset] [])) _
      refine XS.iinc X5.here hx rfl (hb hby d9_51) rfl (l' := #[.val (.ref va), .val (.ref vt), .val (.int vss), .val (.int ((Int32.ofNat i) + (1 : Int32))), .unset, .unset, .unset]) rfl ?_
      show Steps p.tables e below (T5.setTop (mkF m 54 #[.val (.ref va), .val (.ref vt), .val (.int vss), .val (.int ((Int32.ofNat i) + (1 : Int32))), .unset, .unset, .unset] [])) _
      refine XS.goto X5.here hx rfl (pc0 := 54) (pc' := 27) rfl (hb hby d9_54) (by decide) (by decide) ?_
      exact kt
    rw [own_one] at pre6
    obtain ⟨T7, h7, locs7, X7, e7, N7, K7, po7_0, run7⟩ := ih (i + 1) T5 _ h0 X5 e5q N5 Z0 (by omega) Et Ftv Ftc Vb S_cs S_fm
    exact ⟨T7, h7, locs7, X7, e7, N7, (Keep.refl h0 []).trans K7 all0, po7_0, fun t kt => pre6 t (run7 t kt)⟩
theorem d9_87 : decode prog_1_method_1_code 87 = .ok (.iload 5, 2) := by decide +kernel
theorem d9_89 : decode prog_1_method_1_code 89 = .ok (.bipush 6, 2) := by decide +kernel
theorem d9_91 : decode prog_1_method_1_code 91 = .ok (.if_icmp .ge 40, 3) := by decide +kernel
theorem d9_94 : decode prog_1_method_1_code 94 = .ok (.iload 5, 2) := by decide +kernel
theorem d9_96 : decode prog_1_method_1_code 96 = .ok (.aload_n 1, 1) := by decide +kernel
theorem d9_97 : decode prog_1_method_1_code 97 = .ok (.invokevirtual 13, 3) := by decide +kernel
theorem d9_100 : decode prog_1_method_1_code 100 = .ok (.if_icmp .ge 12, 3) := by decide +kernel
theorem d9_103 : decode prog_1_method_1_code 103 = .ok (.aload_n 1, 1) := by decide +kernel
theorem d9_104 : decode prog_1_method_1_code 104 = .ok (.iload 5, 2) := by decide +kernel
theorem d9_106 : decode prog_1_method_1_code 106 = .ok (.invokevirtual 23, 3) := by decide +kernel
theorem d9_109 : decode prog_1_method_1_code 109 = .ok (.goto 5, 3) := by decide +kernel
theorem d9_114 : decode prog_1_method_1_code 114 = .ok (.istore 6, 2) := by decide +kernel
theorem d9_116 : decode prog_1_method_1_code 116 = .ok (.lload_n 3, 1) := by decide +kernel
theorem d9_117 : decode prog_1_method_1_code 117 = .ok (.iload 5, 2) := by decide +kernel
theorem d9_119 : decode prog_1_method_1_code 119 = .ok (.iload 6, 2) := by decide +kernel
theorem pd_4 : parseMethodDescriptor "(JII)J" = some ⟨[.long, .int, .int], some .long⟩ := by decide +kernel
theorem d9_121 : decode prog_1_method_1_code 121 = .ok (.invokestatic 43, 3) := by decide +kernel
theorem d9_124 : decode prog_1_method_1_code 124 = .ok (.lstore_n 3, 1) := by decide +kernel
theorem d9_125 : decode prog_1_method_1_code 125 = .ok (.iinc 5 1, 3) := by decide +kernel
theorem d9_128 : decode prog_1_method_1_code 128 = .ok (.goto (-41), 3) := by decide +kernel
theorem d9_112 : decode prog_1_method_1_code 112 = .ok (.bipush 32, 2) := by decide +kernel
set_option maxRecDepth 65536 in
set_option maxHeartbeats 40000000 in
theorem own_l2 {p : Program} {l : Launch} {e : Env} {s : State} {m : MethodId} {args : Array Value} {below : List Frame} {meth : Method} {c : Code} {Z : State} {a0 : Array Value} {n0 : Nat} (hx : p.tables.exec = Jvm.exec) (hZ : Z.Warmed39 s.vm) (hw : ∀ d ∈ tables_1, d.before a0 Z = true) (hby : c.code = prog_1_method_1_code) (hml : c.maxLocals = 7) (hown : s.vm.findClass "com/example/packet_radio_link/packetradiolink/frame/Address" = some m.cls) (va vt vb : Addr) (kb : ClassId) (NN : Int32) (cs : List Int32) (vz : Int32) (fm : Value) (vss : Int32) (hcd : StrChars.Road.CodA cs 0 NN (List.map Value.int (List.map (fun c => c.toInt8.toInt32) cs))) (hbd : ∀ c ∈ cs, ¬ c < 0 ∧ ¬ (65535 : Int32) < c) (hcs : ¬ vz = 0) (rfm : fm.isRef = true) (hl4 : cs.length ≤ 4000) (hl1 : 1 ≤ cs.length) (hl6 : cs.length ≤ 6) (hok : ∀ i, i < cs.length → ¬ own_csc (cs.getD i 0) = (0 : Int32)) :
    ∀ (k : Nat) (i : Nat) (acc : Int64) (s6 : Slot) (T0 : State) (locs : List Loc) (h0 : Heap), Stand p l e ({ frames := 4, cells := 0, slots := 0, locals := 53 } : Room) s m args below meth c T0 locs 0 0 → T0.heap = h0 → Fr n0 locs → n0 ≤ h0.size → (i + k = 6) → (One s6) → (Exa Z h0 vt "java/lang/String") → (Fld Z h0 vt "java/lang/String" "value" "[B" (.ref vb)) → (Fld Z h0 vt "java/lang/String" "coder" "B" (.int (0 : Int32))) → (Arv Z h0 vb kb .byte NN (List.map Value.int (List.map (fun c => c.toInt8.toInt32) cs)) (.int (0 : Int32))) → (Sta Z h0 "java/lang/String" "COMPACT_STRINGS" "Z" (.int vz)) → (Sta Z h0 "jdk/internal/util/Preconditions" "SIOOBE_FORMATTER" "Ljava/util/function/BiFunction;" fm) → 
      ∃ (T' : State) (h' : Heap) (locs' : List Loc) (s9 : Slot), Stand p l e ({ frames := 4, cells := 0, slots := 0, locals := 53 } : Room) s m args below meth c T' locs' 0 0 ∧ T'.heap = h' ∧ Fr n0 locs' ∧ Keep h0 h' [] ∧ (h' = h0) ∧ ∀ t, Steps p.tables e below (T'.setTop (mkF m 131 #[.val (.ref va), .val (.ref vt), .val (.int vss), .val (.long (own_chk cs k i acc)), .second, .val (.int (Int32.ofNat 6)), s9] [])) t → Steps p.tables e below (T0.setTop (mkF m 87 #[.val (.ref va), .val (.ref vt), .val (.int vss), .val (.long acc), .second, .val (.int (Int32.ofNat i)), s6] [])) t := by
  intro k
  induction k with
  | zero =>
    intro i acc s6 T0 locs h0 X0 e0 N0 Z0 hik h6 Et Ftv Ftc Vb S_cs S_fm
    obtain rfl : i = 6 := by omega
    have pre0 : ∀ t, Steps p.tables e below (T0.setTop (mkF m 87 #[.val (.ref va), .val (.ref vt), .val (.int vss), .val (.long acc), .second, .val (.int (Int32.ofNat 6)), s6] [])) t → Steps p.tables e below (T0.setTop (mkF m 87 #[.val (.ref va), .val (.ref vt), .val (.int vss), .val (.long acc), .second, .val (.int (Int32.ofNat 6)), s6] [])) t := fun t k => k
    have pre1 : ∀ t, Steps p.tables e below (T0.setTop (mkF m 131 #[.val (.ref va), .val (.ref vt), .val (.int vss), .val (.long acc), .second, .val (.int (Int32.ofNat 6)), s6] [])) t → Steps p.tables e below (T0.setTop (mkF m 87 #[.val (.ref va), .val (.ref vt), .val (.int vss), .val (.long acc), .second, .val (.int (Int32.ofNat 6)), s6] [])) t := by
      intro t kt
      refine pre0 t ?_
      show Steps p.tables e below (T0.setTop (mkF m 87 #[.val (.ref va), .val (.ref vt), .val (.int vss), .val (.long acc), .second, .val (.int (Int32.ofNat 6)), s6] [])) _
      refine XS.iload X0.here hx rfl (hb hby d9_87) rfl ?_
      show Steps p.tables e below (T0.setTop (mkF m 89 #[.val (.ref va), .val (.ref vt), .val (.int vss), .val (.long acc), .second, .val (.int (Int32.ofNat 6)), s6] [(.int (Int32.ofNat 6))])) _
      refine XS.bipush X0.here hx rfl (hb hby d9_89) ?_
      show Steps p.tables e below (T0.setTop (mkF m 91 #[.val (.ref va), .val (.ref vt), .val (.int vss), .val (.long acc), .second, .val (.int (Int32.ofNat 6)), s6] [(.int (6 : Int32)), (.int (Int32.ofNat 6))])) _
      refine XS.icmpYes X0.here hx rfl (pc0 := 91) (pc' := 131) rfl (hb hby d9_91) rfl (flt ((by decide) : ¬ ((Int32.ofNat 6) < (6 : Int32)))).2.1 (by decide) (by decide) ?_
      exact kt
    exact ⟨T0, h0, _, (s6), X0, e0, N0, (Keep.refl h0 []), rfl, fun t kt => pre1 t kt⟩
  | succ k ih =>
    intro i acc s6 T0 locs h0 X0 e0 N0 Z0 hik h6 Et Ftv Ftc Vb S_cs S_fm
    have pre0 : ∀ t, Steps p.tables e below (T0.setTop (mkF m 87 #[.val (.ref va), .val (.ref vt), .val (.int vss), .val (.long acc), .second, .val (.int (Int32.ofNat i)), s6] [])) t → Steps p.tables e below (T0.setTop (mkF m 87 #[.val (.ref va), .val (.ref vt), .val (.int vss), .val (.long acc), .second, .val (.int (Int32.ofNat i)), s6] [])) t := fun t k => k
    have hln2 : ∀ d ∈ StrChars.Road.wordsLen, d.before a0 Z = true := fun d hd => hw d ((by decide +kernel : ∀ d ∈ StrChars.Road.wordsLen, d ∈ tables_1) d hd)
    obtain ⟨cq2, kq2, q2a, q2b, q2c⟩ := isOf hZ e0 Et
    obtain ⟨_, _, ⟨T2, L2, k2, n2⟩, -, X2, ⟨Lc2, hQ2, l2, y2, z2⟩, st2⟩ := X0.virtualBack hx (y := (⟨"java/lang/String", "length", "()I"⟩ : MethodName)) (z := (⟨"java/lang/String", "length", "()I"⟩ : MethodName)) hown (mvT hZ (hw _ (List.mem_of_getElem? (i := 51) rfl))) (mvT hZ (hw _ (List.mem_of_getElem? (i := 52) rfl))) (notFace_of_selects (args := #[]) (mvT hZ (hw _ (List.mem_of_getElem? (i := 54) rfl)))) (mvT hZ (hw _ (List.mem_of_getElem? (i := 54) rfl))) (mvT hZ (hw _ (List.mem_of_getElem? (i := 53) rfl))) (by decide) (StrChars.Road.lenW (W := 1) hZ hln2 (kI := 4) (hw _ (List.mem_of_getElem? (i := 10) rfl)) Et Ftv Ftc Vb hcd hbd S_cs hcs hl4 (by decide) (by decide)) q2a q2c (g := (mkF m 97 #[.val (.ref va), .val (.ref vt), .val (.int vss), .val (.long acc), .second, .val (.int (Int32.ofNat i)), s6] [(.ref vt), (.int (Int32.ofNat i))])) rfl (by rw [hml]; rfl) (Steps.refl _) (argsL := []) (rest := [(.int (Int32.ofNat i))]) (lenOf pd_1 rfl) rfl (by show 2 * 0 + _ ≤ _; exact Nat.le_of_eq rfl) (hb hby d9_97) (fun _ _ => ⟨rfl, e0, (by decide : 0 + 0 ≤ _), (by decide : 0 + 0 ≤ _)⟩)
    dsimp only [Pt.U, Pt.locs, Pt.cells, Pt.slots] at X2 l2 y2 z2 st2 hQ2
    subst l2 y2 z2
    obtain ⟨rfl, rfl, e2q⟩ := hQ2
    have N2 := Fr.app N0 (Fr.nil n0)
    have pre3 : ∀ t, Steps p.tables e below (T2.setTop (mkF m 100 #[.val (.ref va), .val (.ref vt), .val (.int vss), .val (.long acc), .second, .val (.int (Int32.ofNat i)), s6] [(.int (Int32.ofNat cs.length)), (.int (Int32.ofNat i))])) t → Steps p.tables e below (T0.setTop (mkF m 87 #[.val (.ref va), .val (.ref vt), .val (.int vss), .val (.long acc), .second, .val (.int (Int32.ofNat i)), s6] [])) t := by
      intro t kt
      refine pre0 t ?_
      show Steps p.tables e below (T0.setTop (mkF m 87 #[.val (.ref va), .val (.ref vt), .val (.int vss), .val (.long acc), .second, .val (.int (Int32.ofNat i)), s6] [])) _
      refine XS.iload X0.here hx rfl (hb hby d9_87) rfl ?_
      show Steps p.tables e below (T0.setTop (mkF m 89 #[.val (.ref va), .val (.ref vt), .val (.int vss), .val (.long acc), .second, .val (.int (Int32.ofNat i)), s6] [(.int (Int32.ofNat i))])) _
      refine XS.bipush X0.here hx rfl (hb hby d9_89) ?_
      show Steps p.tables e below (T0.setTop (mkF m 91 #[.val (.ref va), .val (.ref vt), .val (.int vss), .val (.long acc), .second, .val (.int (Int32.ofNat i)), s6] [(.int (6 : Int32)), (.int (Int32.ofNat i))])) _
      refine XS.icmpNo X0.here hx rfl (hb hby d9_91) rfl (tlt (((own_lt32 (j := 6) (by omega) (by omega)).mpr (by omega)) : (Int32.ofNat i) < (6 : Int32))).2.1 ?_
      show Steps p.tables e below (T0.setTop (mkF m 94 #[.val (.ref va), .val (.ref vt), .val (.int vss), .val (.long acc), .second, .val (.int (Int32.ofNat i)), s6] [])) _
      refine XS.iload X0.here hx rfl (hb hby d9_94) rfl ?_
      show Steps p.tables e below (T0.setTop (mkF m 96 #[.val (.ref va), .val (.ref vt), .val (.int vss), .val (.long acc), .second, .val (.int (Int32.ofNat i)), s6] [(.int (Int32.ofNat i))])) _
      refine XS.aloadN X0.here hx rfl (hb hby d9_96) rfl rfl ?_
      show Steps p.tables e below (T0.setTop (mkF m 97 #[.val (.ref va), .val (.ref vt), .val (.int vss), .val (.long acc), .second, .val (.int (Int32.ofNat i)), s6] [(.ref vt), (.int (Int32.ofNat i))])) _
      refine st2.trans ?_
      exact kt
    by_cases hc4 : (Int32.ofNat i) < (Int32.ofNat cs.length)
    ·
      have hch5 : ∀ d ∈ StrChars.Road.wordsChN, d.before a0 Z = true := fun d hd => hw d ((by decide +kernel : ∀ d ∈ StrChars.Road.wordsChN, d ∈ tables_1) d hd)
      obtain ⟨cq5, kq5, q5a, q5b, q5c⟩ := isOf hZ e2q Et
      obtain ⟨_, _, ⟨T5, L5, k5, n5⟩, -, X5, ⟨Lc5, hQ5, l5, y5, z5⟩, st5⟩ := X2.virtualBack hx (y := (⟨"java/lang/String", "charAt", "(I)C"⟩ : MethodName)) (z := (⟨"java/lang/String", "charAt", "(I)C"⟩ : MethodName)) hown (mvT hZ (hw _ (List.mem_of_getElem? (i := 61) rfl))) (mvT hZ (hw _ (List.mem_of_getElem? (i := 62) rfl))) (notFace_of_selects (args := #[]) (mvT hZ (hw _ (List.mem_of_getElem? (i := 64) rfl)))) (mvT hZ (hw _ (List.mem_of_getElem? (i := 64) rfl))) (mvT hZ (hw _ (List.mem_of_getElem? (i := 63) rfl))) (by decide) (StrChars.Road.chN (W := 0) hZ hch5 (kI := 4) (hw _ (List.mem_of_getElem? (i := 10) rfl)) Et Ftv Ftc Vb hcd hbd S_cs hcs S_fm rfm hl4 (i := i) ((own_lt32 (by omega) (by omega)).mp hc4) (j := (Int32.ofNat i)) rfl (by decide) (by decide)) q5a q5c (g := (mkF m 106 #[.val (.ref va), .val (.ref vt), .val (.int vss), .val (.long acc), .second, .val (.int (Int32.ofNat i)), s6] [(.int (Int32.ofNat i)), (.ref vt)])) rfl (by rw [hml]; rfl) (Steps.refl _) (argsL := [(.int (Int32.ofNat i))]) (rest := []) (lenOf pd_2 rfl) rfl (by show 2 * 0 + _ ≤ _; exact Nat.le_of_eq rfl) (hb hby d9_106) (fun _ _ => ⟨rfl, e2q, (by decide : 0 + 0 ≤ _), (by decide : 0 + 0 ≤ _)⟩)
      dsimp only [Pt.U, Pt.locs, Pt.cells, Pt.slots] at X5 l5 y5 z5 st5 hQ5
      subst l5 y5 z5
      obtain ⟨rfl, rfl, e5q⟩ := hQ5
      have N5 := Fr.app N2 (Fr.nil n0)
      obtain ⟨_, _, ⟨T6, L6, k6, n6⟩, -, X6, ⟨Lc6, hQ6, l6, y6, z6⟩, st6⟩ := Jvm.LawKit.callS X5 hx (y := (⟨"com/example/packet_radio_link/packetradiolink/frame/Address", "withCharacter", "(JII)J"⟩ : MethodName)) hown (mvT hZ (hw _ (List.mem_of_getElem? (i := 86) rfl))) (mvT hZ (hw _ (List.mem_of_getElem? (i := 87) rfl))) (mvT hZ (hw _ (List.mem_of_getElem? (i := 41) rfl))) (mvT hZ (hw _ (List.mem_of_getElem? (i := 88) rfl))) (by decide) (backOf (W := 0) (rm19 l Z a0 hw [] acc (Int32.ofNat i) (cs.getD i 0)  h0 n0 Z0 ) hZ (hw _ (List.mem_of_getElem? (i := 88) rfl)) (hw _ (List.mem_of_getElem? (i := 41) rfl)) (by decide) (by decide)) (g := (mkF m 121 #[.val (.ref va), .val (.ref vt), .val (.int vss), .val (.long acc), .second, .val (.int (Int32.ofNat i)), .val (.int (cs.getD i 0))] [(.int (cs.getD i 0)), (.int (Int32.ofNat i)), (.long acc)])) rfl (by rw [hml]; rfl) (argsL := [(.long acc), (.int (Int32.ofNat i)), (.int (cs.getD i 0))]) (rest := []) (lenOf pd_4 rfl) rfl (by show 2 * 0 + _ ≤ _; exact Nat.le_of_eq rfl) (hb hby d9_121) (fun _ _ => ⟨rfl, e5q, (by decide : 0 + 0 ≤ _), (by decide : 0 + 0 ≤ _)⟩)
      dsimp only [Pt.U, Pt.locs, Pt.cells, Pt.slots] at X6 l6 y6 z6 st6 hQ6
      subst l6 y6 z6
      obtain ⟨rfl, N6q, e6q⟩ := hQ6
      have N6 := Fr.app N5 N6q
      have pre7 : ∀ t, Steps p.tables e below (T6.setTop (mkF m 87 #[.val (.ref va), .val (.ref vt), .val (.int vss), .val (.long (own_wc acc (Int32.ofNat i) (cs.getD i 0))), .second, .val (.int ((Int32.ofNat i) + (1 : Int32))), .val (.int (cs.getD i 0))] [])) t → Steps p.tables e below (T0.setTop (mkF m 87 #[.val (.ref va), .val (.ref vt), .val (.int vss), .val (.long acc), .second, .val (.int (Int32.ofNat i)), s6] [])) t := by
        intro t kt
        refine pre3 t ?_
        show Steps p.tables e below (T2.setTop (mkF m 100 #[.val (.ref va), .val (.ref vt), .val (.int vss), .val (.long acc), .second, .val (.int (Int32.ofNat i)), s6] [(.int (Int32.ofNat cs.length)), (.int (Int32.ofNat i))])) _
        refine XS.icmpNo X2.here hx rfl (hb hby d9_100) rfl (tlt (hc4 : (Int32.ofNat i) < (Int32.ofNat cs.length))).2.1 ?_
        show Steps p.tables e below (T2.setTop (mkF m 103 #[.val (.ref va), .val (.ref vt), .val (.int vss), .val (.long acc), .second, .val (.int (Int32.ofNat i)), s6] [])) _
        refine XS.aloadN X2.here hx rfl (hb hby d9_103) rfl rfl ?_
        show Steps p.tables e below (T2.setTop (mkF m 104 #[.val (.ref va), .val (.ref vt), .val (.int vss), .val (.long acc), .second, .val (.int (Int32.ofNat i)), s6] [(.ref vt)])) _
        refine XS.iload X2.here hx rfl (hb hby d9_104) rfl ?_
        show Steps p.tables e below (T2.setTop (mkF m 106 #[.val (.ref va), .val (.ref vt), .val (.int vss), .val (.long acc), .second, .val (.int (Int32.ofNat i)), s6] [(.int (Int32.ofNat i)), (.ref vt)])) _
        refine st5.trans ?_
        show Steps p.tables e below (T5.setTop (mkF m 109 #[.val (.ref va), .val (.ref vt), .val (.int vss), .val (.long acc), .second, .val (.int (Int32.ofNat i)), s6] [(.int (cs.getD i 0))])) _
        refine XS.goto X5.here hx rfl (pc0 := 109) (pc' := 114) rfl (hb hby d9_109) (by decide) (by decide) ?_
        show Steps p.tables e below (T5.setTop (mkF m 114 #[.val (.ref va), .val (.ref vt), .val (.int vss), .val (.long acc), .second, .val (.int (Int32.ofNat i)), s6] [(.int (cs.getD i 0))])) _
        refine XS.istore X5.here hx rfl (hb hby d9_114) rfl (l' := #[.val (.ref va), .val (.ref vt), .val (.int vss), .val (.long acc), .second, .val (.int (Int32.ofNat i)), .val (.int (cs.getD i 0))]) (own_os6 h6) ?_
        show Steps p.tables e below (T5.setTop (mkF m 116 #[.val (.ref va), .val (.ref vt), .val (.int vss), .val (.long acc), .second, .val (.int (Int32.ofNat i)), .val (.int (cs.getD i 0))] [])) _
        refine XS.lloadN X5.here hx rfl (hb hby d9_116) rfl ?_
        show Steps p.tables e below (T5.setTop (mkF m 117 #[.val (.ref va), .val (.ref vt), .val (.int vss), .val (.long acc), .second, .val (.int (Int32.ofNat i)), .val (.int (cs.getD i 0))] [(.long acc)])) _
        refine XS.iload X5.here hx rfl (hb hby d9_117) rfl ?_
        show Steps p.tables e below (T5.setTop (mkF m 119 #[.val (.ref va), .val (.ref vt), .val (.int vss), .val (.long acc), .second, .val (.int (Int32.ofNat i)), .val (.int (cs.getD i 0))] [(.int (Int32.ofNat i)), (.long acc)])) _
        refine XS.iload X5.here hx rfl (hb hby d9_119) rfl ?_
        show Steps p.tables e below (T5.setTop (mkF m 121 #[.val (.ref va), .val (.ref vt), .val (.int vss), .val (.long acc), .second, .val (.int (Int32.ofNat i)), .val (.int (cs.getD i 0))] [(.int (cs.getD i 0)), (.int (Int32.ofNat i)), (.long acc)])) _
        refine st6 _ ?_
        show Steps p.tables e below (T6.setTop (mkF m 124 #[.val (.ref va), .val (.ref vt), .val (.int vss), .val (.long acc), .second, .val (.int (Int32.ofNat i)), .val (.int (cs.getD i 0))] [(.long (own_wc acc (Int32.ofNat i) (cs.getD i 0)))])) _
        refine XS.lstoreN X6.here hx rfl (hb hby d9_124) rfl (l' := #[.val (.ref va), .val (.ref vt), .val (.int vss), .val (.long (own_wc acc (Int32.ofNat i) (cs.getD i 0))), .second, .val (.int (Int32.ofNat i)), .val (.int (cs.getD i 0))]) rfl ?_
        show Steps p.tables e below (T6.setTop (mkF m 125 #[.val (.ref va), .val (.ref vt), .val (.int vss), .val (.long (own_wc acc (Int32.ofNat i) (cs.getD i 0))), .second, .val (.int (Int32.ofNat i)), .val (.int (cs.getD i 0))] [])) _
        refine XS.iinc X6.here hx rfl (hb hby d9_125) rfl (l' := #[.val (.ref va), .val (.ref vt), .val (.int vss), .val (.long (own_wc acc (Int32.ofNat i) (cs.getD i 0))), .second, .val (.int ((Int32.ofNat i) + (1 : Int32))), .val (.int (cs.getD i 0))]) rfl ?_
        show Steps p.tables e below (T6.setTop (mkF m 128 #[.val (.ref va), .val (.ref vt), .val (.int vss), .val (.long (own_wc acc (Int32.ofNat i) (cs.getD i 0))), .second, .val (.int ((Int32.ofNat i) + (1 : Int32))), .val (.int (cs.getD i 0))] [])) _
        refine XS.goto X6.here hx rfl (pc0 := 128) (pc' := 87) rfl (hb hby d9_128) (by decide) (by decide) ?_
        exact kt
      rw [own_one] at pre7
      obtain ⟨T8, h8, locs8, s98, X8, e8, N8, K8, po8_0, run8⟩ := ih (i + 1) ((own_wc acc (Int32.ofNat i) (cs.getD i 0))) (.val (.int (cs.getD i 0))) T6 _ h0 X6 e6q N6 Z0 (by omega) (One.val rfl) Et Ftv Ftc Vb S_cs S_fm
      exact ⟨T8, h8, locs8, s98, X8, e8, N8, (Keep.refl h0 []).trans K8 all0, po8_0, fun t kt => pre7 t (run8 t (by rw [own_chk, own_pad, if_pos ((own_lt32 (by omega) (by omega)).mp hc4)] at kt; exact kt))⟩
    ·
      obtain ⟨_, _, ⟨T9, L9, k9, n9⟩, -, X9, ⟨Lc9, hQ9, l9, y9, z9⟩, st9⟩ := Jvm.LawKit.callS X2 hx (y := (⟨"com/example/packet_radio_link/packetradiolink/frame/Address", "withCharacter", "(JII)J"⟩ : MethodName)) hown (mvT hZ (hw _ (List.mem_of_getElem? (i := 86) rfl))) (mvT hZ (hw _ (List.mem_of_getElem? (i := 87) rfl))) (mvT hZ (hw _ (List.mem_of_getElem? (i := 41) rfl))) (mvT hZ (hw _ (List.mem_of_getElem? (i := 88) rfl))) (by decide) (backOf (W := 0) (rm19 l Z a0 hw [] acc (Int32.ofNat i) (32 : Int32)  h0 n0 Z0 ) hZ (hw _ (List.mem_of_getElem? (i := 88) rfl)) (hw _ (List.mem_of_getElem? (i := 41) rfl)) (by decide) (by decide)) (g := (mkF m 121 #[.val (.ref va), .val (.ref vt), .val (.int vss), .val (.long acc), .second, .val (.int (Int32.ofNat i)), .val (.int (32 : Int32))] [(.int (32 : Int32)), (.int (Int32.ofNat i)), (.long acc)])) rfl (by rw [hml]; rfl) (argsL := [(.long acc), (.int (Int32.ofNat i)), (.int (32 : Int32))]) (rest := []) (lenOf pd_4 rfl) rfl (by show 2 * 0 + _ ≤ _; exact Nat.le_of_eq rfl) (hb hby d9_121) (fun _ _ => ⟨rfl, e2q, (by decide : 0 + 0 ≤ _), (by decide : 0 + 0 ≤ _)⟩)
      dsimp only [Pt.U, Pt.locs, Pt.cells, Pt.slots] at X9 l9 y9 z9 st9 hQ9
      subst l9 y9 z9
      obtain ⟨rfl, N9q, e9q⟩ := hQ9
      have N9 := Fr.app N2 N9q
      have pre10 : ∀ t, Steps p.tables e below (T9.setTop (mkF m 87 #[.val (.ref va), .val (.ref vt), .val (.int vss), .val (.long (own_wc acc (Int32.ofNat i) (32 : Int32))), .second, .val (.int ((Int32.ofNat i) + (1 : Int32))), .val (.int (32 : Int32))] [])) t → Steps p.tables e below (T0.setTop (mkF m 87 #[.val (.ref va), .val (.ref vt), .val (.int vss), .val (.long acc), .second, .val (.int (Int32.ofNat i)), s6] [])) t := by
        intro t kt
        refine pre3 t ?_
        show Steps p.tables e below (T2.setTop (mkF m 100 #[.val (.ref va), .val (.ref vt), .val (.int vss), .val (.long acc), .second, .val (.int (Int32.ofNat i)), s6] [(.int (Int32.ofNat cs.length)), (.int (Int32.ofNat i))])) _
        refine XS.icmpYes X2.here hx rfl (pc0 := 100) (pc' := 112) rfl (hb hby d9_100) rfl (flt (hc4 : ¬ ((Int32.ofNat i) < (Int32.ofNat cs.length)))).2.1 (by decide) (by decide) ?_
        show Steps p.tables e below (T2.setTop (mkF m 112 #[.val (.ref va), .val (.ref vt), .val (.int vss), .val (.long acc), .second, .val (.int (Int32.ofNat i)), s6] [])) _
        refine XS.bipush X2.here hx rfl (hb hby d9_112) ?_
        show Steps p.tables e below (T2.setTop (mkF m 114 #[.val (.ref va), .val (.ref vt), .val (.int vss), .val (.long acc), .second, .val (.int (Int32.ofNat i)), s6] [(.int (32 : Int32))])) _
        refine XS.istore X2.here hx rfl (hb hby d9_114) rfl (l' := #[.val (.ref va), .val (.ref vt), .val (.int vss), .val (.long acc), .second, .val (.int (Int32.ofNat i)), .val (.int (32 : Int32))]) (own_os6 h6) ?_
        show Steps p.tables e below (T2.setTop (mkF m 116 #[.val (.ref va), .val (.ref vt), .val (.int vss), .val (.long acc), .second, .val (.int (Int32.ofNat i)), .val (.int (32 : Int32))] [])) _
        refine XS.lloadN X2.here hx rfl (hb hby d9_116) rfl ?_
        show Steps p.tables e below (T2.setTop (mkF m 117 #[.val (.ref va), .val (.ref vt), .val (.int vss), .val (.long acc), .second, .val (.int (Int32.ofNat i)), .val (.int (32 : Int32))] [(.long acc)])) _
        refine XS.iload X2.here hx rfl (hb hby d9_117) rfl ?_
        show Steps p.tables e below (T2.setTop (mkF m 119 #[.val (.ref va), .val (.ref vt), .val (.int vss), .val (.long acc), .second, .val (.int (Int32.ofNat i)), .val (.int (32 : Int32))] [(.int (Int32.ofNat i)), (.long acc)])) _
        refine XS.iload X2.here hx rfl (hb hby d9_119) rfl ?_
        show Steps p.tables e below (T2.setTop (mkF m 121 #[.val (.ref va), .val (.ref vt), .val (.int vss), .val (.long acc), .second, .val (.int (Int32.ofNat i)), .val (.int (32 : Int32))] [(.int (32 : Int32)), (.int (Int32.ofNat i)), (.long acc)])) _
        refine st9 _ ?_
        show Steps p.tables e below (T9.setTop (mkF m 124 #[.val (.ref va), .val (.ref vt), .val (.int vss), .val (.long acc), .second, .val (.int (Int32.ofNat i)), .val (.int (32 : Int32))] [(.long (own_wc acc (Int32.ofNat i) (32 : Int32)))])) _
        refine XS.lstoreN X9.here hx rfl (hb hby d9_124) rfl (l' := #[.val (.ref va), .val (.ref vt), .val (.int vss), .val (.long (own_wc acc (Int32.ofNat i) (32 : Int32))), .second, .val (.int (Int32.ofNat i)), .val (.int (32 : Int32))]) rfl ?_
        show Steps p.tables e below (T9.setTop (mkF m 125 #[.val (.ref va), .val (.ref vt), .val (.int vss), .val (.long (own_wc acc (Int32.ofNat i) (32 : Int32))), .second, .val (.int (Int32.ofNat i)), .val (.int (32 : Int32))] [])) _
        refine XS.iinc X9.here hx rfl (hb hby d9_125) rfl (l' := #[.val (.ref va), .val (.ref vt), .val (.int vss), .val (.long (own_wc acc (Int32.ofNat i) (32 : Int32))), .second, .val (.int ((Int32.ofNat i) + (1 : Int32))), .val (.int (32 : Int32))]) rfl ?_
        show Steps p.tables e below (T9.setTop (mkF m 128 #[.val (.ref va), .val (.ref vt), .val (.int vss), .val (.long (own_wc acc (Int32.ofNat i) (32 : Int32))), .second, .val (.int ((Int32.ofNat i) + (1 : Int32))), .val (.int (32 : Int32))] [])) _
        refine XS.goto X9.here hx rfl (pc0 := 128) (pc' := 87) rfl (hb hby d9_128) (by decide) (by decide) ?_
        exact kt
      rw [own_one] at pre10
      obtain ⟨T11, h11, locs11, s911, X11, e11, N11, K11, po11_0, run11⟩ := ih (i + 1) ((own_wc acc (Int32.ofNat i) (32 : Int32))) (.val (.int (32 : Int32))) T9 _ h0 X9 e9q N9 Z0 (by omega) (One.val rfl) Et Ftv Ftc Vb S_cs S_fm
      exact ⟨T11, h11, locs11, s911, X11, e11, N11, (Keep.refl h0 []).trans K11 all0, po11_0, fun t kt => pre10 t (run11 t (by rw [own_chk, own_pad, if_neg (fun q => hc4 ((own_lt32 (by omega) (by omega)).mpr q))] at kt; exact kt))⟩
theorem d9_0 : decode prog_1_method_1_code 0 = .ok (.aload_n 0, 1) := by decide +kernel
theorem d9_1 : decode prog_1_method_1_code 1 = .ok (.invokespecial 1, 3) := by decide +kernel
theorem d9_4 : decode prog_1_method_1_code 4 = .ok (.aload_n 1, 1) := by decide +kernel
theorem pd_5 : parseMethodDescriptor "()Z" = some ⟨[], some .boolean⟩ := by decide +kernel
theorem d9_5 : decode prog_1_method_1_code 5 = .ok (.invokevirtual 7, 3) := by decide +kernel
theorem d9_8 : decode prog_1_method_1_code 8 = .ok (.ifCond .ne 12, 3) := by decide +kernel
theorem d9_11 : decode prog_1_method_1_code 11 = .ok (.aload_n 1, 1) := by decide +kernel
theorem d9_12 : decode prog_1_method_1_code 12 = .ok (.invokevirtual 13, 3) := by decide +kernel
theorem d9_15 : decode prog_1_method_1_code 15 = .ok (.bipush 6, 2) := by decide +kernel
theorem d9_17 : decode prog_1_method_1_code 17 = .ok (.if_icmp .le 8, 3) := by decide +kernel
theorem d9_25 : decode prog_1_method_1_code 25 = .ok (.iconst 0, 1) := by decide +kernel
theorem d9_26 : decode prog_1_method_1_code 26 = .ok (.istore_n 3, 1) := by decide +kernel
theorem d9_57 : decode prog_1_method_1_code 57 = .ok (.iload_n 2, 1) := by decide +kernel
theorem d9_58 : decode prog_1_method_1_code 58 = .ok (.ifCond .lt 9, 3) := by decide +kernel
theorem d9_61 : decode prog_1_method_1_code 61 = .ok (.iload_n 2, 1) := by decide +kernel
theorem d9_62 : decode prog_1_method_1_code 62 = .ok (.bipush 15, 2) := by decide +kernel
theorem d9_64 : decode prog_1_method_1_code 64 = .ok (.if_icmp .le 18, 3) := by decide +kernel
theorem d9_82 : decode prog_1_method_1_code 82 = .ok (.lconst 0, 1) := by decide +kernel
theorem d9_83 : decode prog_1_method_1_code 83 = .ok (.lstore_n 3, 1) := by decide +kernel
theorem d9_84 : decode prog_1_method_1_code 84 = .ok (.iconst 0, 1) := by decide +kernel
theorem d9_85 : decode prog_1_method_1_code 85 = .ok (.istore 5, 2) := by decide +kernel
theorem d9_131 : decode prog_1_method_1_code 131 = .ok (.aload_n 0, 1) := by decide +kernel
theorem d9_132 : decode prog_1_method_1_code 132 = .ok (.lload_n 3, 1) := by decide +kernel
theorem d9_133 : decode prog_1_method_1_code 133 = .ok (.putfield 47, 3) := by decide +kernel
theorem d9_136 : decode prog_1_method_1_code 136 = .ok (.aload_n 0, 1) := by decide +kernel
theorem d9_137 : decode prog_1_method_1_code 137 = .ok (.iload_n 2, 1) := by decide +kernel
theorem d9_138 : decode prog_1_method_1_code 138 = .ok (.putfield 51, 3) := by decide +kernel
theorem d9_141 : decode prog_1_method_1_code 141 = .ok (.return_, 1) := by decide +kernel
theorem ef_rm9 (m : MethodId) (x0 : Addr) (x1 : Addr) (x2 : Int32) : entryFrame m #[(.ref x0), (.ref x1), (.int x2)] 7 = mkF m 0 #[.val (.ref x0), .val (.ref x1), .val (.int x2), .unset, .unset, .unset, .unset] [] := by first | (simp [entryFrame, mkF, argsToLocals, Value.category]; done) | rfl
def Q9 (Z : State) (va : Addr) (vt : Addr) (vss : Int32) (vb : Addr) (kb : ClassId) (NN : Int32) (cs : List Int32) (vz : Int32) (fm : Value) (h0 : Heap) (n0 : Nat) (v : Option Value) (h : Heap) (L : List Loc) : Prop := v = none ∧ Fr n0 L ∧ Keep h0 h [va] ∧ Exa Z h va "com/example/packet_radio_link/packetradiolink/frame/Address" ∧ Fld Z h va "com/example/packet_radio_link/packetradiolink/frame/Address" "characters" "J" (.long (own_chk cs 6 0 (0 : Int64))) ∧ Fld Z h va "com/example/packet_radio_link/packetradiolink/frame/Address" "ssid" "I" (.int vss)
set_option maxRecDepth 65536 in
set_option maxHeartbeats 40000000 in
theorem rm9 (l : Launch) (Z : State) (a0 : Array Value) (hw : ∀ d ∈ tables_1, d.before a0 Z = true) (ws : List Jvm.Cond) (va : Addr) (vt : Addr) (vss : Int32) (vb : Addr) (kb : ClassId) (NN : Int32) (cs : List Int32) (vz : Int32) (fm : Value) (h0 : Heap) (n0 : Nat) (Z0 : n0 ≤ h0.size) (Ea : Exa Z h0 va "com/example/packet_radio_link/packetradiolink/frame/Address") (Fch : Fld Z h0 va "com/example/packet_radio_link/packetradiolink/frame/Address" "characters" "J" (.long (0 : Int64))) (Fss : Fld Z h0 va "com/example/packet_radio_link/packetradiolink/frame/Address" "ssid" "I" (.int (0 : Int32))) (Et : Exa Z h0 vt "java/lang/String") (Ftv : Fld Z h0 vt "java/lang/String" "value" "[B" (.ref vb)) (Ftc : Fld Z h0 vt "java/lang/String" "coder" "B" (.int (0 : Int32))) (Vb : Arv Z h0 vb kb .byte NN (List.map Value.int (List.map (fun c => c.toInt8.toInt32) cs)) (.int (0 : Int32))) (S_cs : Sta Z h0 "java/lang/String" "COMPACT_STRINGS" "Z" (.int vz)) (S_fm : Sta Z h0 "jdk/internal/util/Preconditions" "SIOOBE_FORMATTER" "Ljava/util/function/BiFunction;" fm) (g_va : n0 ≤ va) (nat_ : va ≠ vt) (nab_ : va ≠ vb) (hcd : StrChars.Road.CodA cs 0 NN (List.map Value.int (List.map (fun c => c.toInt8.toInt32) cs))) (hbd : ∀ c ∈ cs, ¬ c < 0 ∧ ¬ (65535 : Int32) < c) (hcs : ¬ vz = 0) (rfm : fm.isRef = true) (hl4 : cs.length ≤ 4000) (hl1 : 1 ≤ cs.length) (hl6 : cs.length ≤ 6) (hok : ∀ i, i < cs.length → ¬ own_csc (cs.getD i 0) = (0 : Int32)) (hs0 : ¬ vss < (0 : Int32)) (hs15 : ¬ (15 : Int32) < vss) :
    MetFree l (⟨"com/example/packet_radio_link/packetradiolink/frame/Address", "<init>", "(Ljava/lang/String;I)V"⟩ : MethodName) (head1 (Jvm.Cond.code (⟨"com/example/packet_radio_link/packetradiolink/frame/Address", "<init>", "(Ljava/lang/String;I)V"⟩ : MethodName) prog_1_method_1_code 7 none :: ws) ({ frames := 4, cells := 0, slots := 0, locals := 53 } : Room)) (fun a U => a = #[(.ref va), (.ref vt), (.int vss)] ∧ Z.Warmed39 U.vm ∧ U.heap = h0) (fun _ _ _ _ _ => True) (fun _ U o U' => ∃ v L, o = .returned v ∧ Q9 Z va vt vss vb kb NN cs vz fm h0 n0 v U'.heap L ∧ FrameEnd U o U' L ({ frames := 4, cells := 0, slots := 0, locals := 53 } : Room).cells ({ frames := 4, cells := 0, slots := 0, locals := 53 } : Room).slots) := by
  refine MetFree.of_bodySF (plainFor_of_name pn_43) hisR ?_
  intro p e s m args below meth c s₁ Bd hml0 hP hK
  obtain ⟨rfl, hZ, hh⟩ := hP
  have hx := Bd.exec
  have hby := Bd.bytes
  have hml : c.maxLocals = 7 := hml0
  have hown : s.vm.findClass "com/example/packet_radio_link/packetradiolink/frame/Address" = some m.cls := findClass_of_methodNamed Bd.named
  have hnm := (name_of_methodNamed Bd.named Bd.method).1
  have X0 : Stand p l e ({ frames := 4, cells := 0, slots := 0, locals := 53 } : Room) s m #[(.ref va), (.ref vt), (.int vss)] below meth c s₁ [] 0 0 := Stand.of_body Bd
  have e0 : s₁.heap = h0 := by rw [← hh, Bd.state]; rfl
  have N0 := Fr.nil n0
  have pre0 : ∀ t, Steps p.tables e below (s₁.setTop (mkF m 0 #[.val (.ref va), .val (.ref vt), .val (.int vss), .unset, .unset, .unset, .unset] [])) t → Steps p.tables e below (s₁.setTop (entryFrame m #[(.ref va), (.ref vt), (.int vss)] 7)) t := fun t k => castTop (ef_rm9 m va vt vss) k
  obtain ⟨T1, X1, e1, st1⟩ := initO X0 hx hZ hown (hw _ (List.mem_of_getElem? (i := 45) rfl)) (hw _ (List.mem_of_getElem? (i := 21) rfl)) (hw _ (List.mem_of_getElem? (i := 22) rfl)) e0 (g := (mkF m 1 #[.val (.ref va), .val (.ref vt), .val (.int vss), .unset, .unset, .unset, .unset] [(.ref va)])) rfl (by rw [hml]; rfl) rfl (hb hby d9_1) (by decide) (W := 0) (by show 2 * 0 + _ ≤ _; exact Nat.le_of_eq rfl) (by decide)
  have hln2 : ∀ d ∈ StrChars.Road.wordsEmp, d.before a0 Z = true := fun d hd => hw d ((by decide +kernel : ∀ d ∈ StrChars.Road.wordsEmp, d ∈ tables_1) d hd)
  obtain ⟨cq2, kq2, q2a, q2b, q2c⟩ := isOf hZ e1 Et
  obtain ⟨_, _, ⟨T2, L2, k2, n2⟩, -, X2, ⟨Lc2, hQ2, l2, y2, z2⟩, st2⟩ := X1.virtualBack hx (y := (⟨"java/lang/String", "isEmpty", "()Z"⟩ : MethodName)) (z := (⟨"java/lang/String", "isEmpty", "()Z"⟩ : MethodName)) hown (mvT hZ (hw _ (List.mem_of_getElem? (i := 46) rfl))) (mvT hZ (hw _ (List.mem_of_getElem? (i := 47) rfl))) (notFace_of_selects (args := #[]) (mvT hZ (hw _ (List.mem_of_getElem? (i := 49) rfl)))) (mvT hZ (hw _ (List.mem_of_getElem? (i := 49) rfl))) (mvT hZ (hw _ (List.mem_of_getElem? (i := 48) rfl))) (by decide) (StrChars.Road.empW (W := 0) hZ hln2 (kI := 4) (hw _ (List.mem_of_getElem? (i := 10) rfl)) Et Ftv Ftc Vb hcd hbd hl4 (by decide) (by decide)) q2a q2c (g := (mkF m 5 #[.val (.ref va), .val (.ref vt), .val (.int vss), .unset, .unset, .unset, .unset] [(.ref vt)])) rfl (by rw [hml]; rfl) (Steps.refl _) (argsL := []) (rest := []) (lenOf pd_5 rfl) rfl (by show 2 * 0 + _ ≤ _; exact Nat.le_of_eq rfl) (hb hby d9_5) (fun _ _ => ⟨rfl, e1, (by decide : 0 + 0 ≤ _), (by decide : 0 + 0 ≤ _)⟩)
  dsimp only [Pt.U, Pt.locs, Pt.cells, Pt.slots] at X2 l2 y2 z2 st2 hQ2
  subst l2 y2 z2
  obtain ⟨rfl, rfl, e2q⟩ := hQ2
  have N2 := Fr.app N0 (Fr.nil n0)
  have hln3 : ∀ d ∈ StrChars.Road.wordsLen, d.before a0 Z = true := fun d hd => hw d ((by decide +kernel : ∀ d ∈ StrChars.Road.wordsLen, d ∈ tables_1) d hd)
  obtain ⟨cq3, kq3, q3a, q3b, q3c⟩ := isOf hZ e2q Et
  obtain ⟨_, _, ⟨T3, L3, k3, n3⟩, -, X3, ⟨Lc3, hQ3, l3, y3, z3⟩, st3⟩ := X2.virtualBack hx (y := (⟨"java/lang/String", "length", "()I"⟩ : MethodName)) (z := (⟨"java/lang/String", "length", "()I"⟩ : MethodName)) hown (mvT hZ (hw _ (List.mem_of_getElem? (i := 51) rfl))) (mvT hZ (hw _ (List.mem_of_getElem? (i := 52) rfl))) (notFace_of_selects (args := #[]) (mvT hZ (hw _ (List.mem_of_getElem? (i := 54) rfl)))) (mvT hZ (hw _ (List.mem_of_getElem? (i := 54) rfl))) (mvT hZ (hw _ (List.mem_of_getElem? (i := 53) rfl))) (by decide) (StrChars.Road.lenW (W := 0) hZ hln3 (kI := 4) (hw _ (List.mem_of_getElem? (i := 10) rfl)) Et Ftv Ftc Vb hcd hbd S_cs hcs hl4 (by decide) (by decide)) q3a q3c (g := (mkF m 12 #[.val (.ref va), .val (.ref vt), .val (.int vss), .unset, .unset, .unset, .unset] [(.ref vt)])) rfl (by rw [hml]; rfl) (Steps.refl _) (argsL := []) (rest := []) (lenOf pd_1 rfl) rfl (by show 2 * 0 + _ ≤ _; exact Nat.le_of_eq rfl) (hb hby d9_12) (fun _ _ => ⟨rfl, e2q, (by decide : 0 + 0 ≤ _), (by decide : 0 + 0 ≤ _)⟩)
  dsimp only [Pt.U, Pt.locs, Pt.cells, Pt.slots] at X3 l3 y3 z3 st3 hQ3
  subst l3 y3 z3
  obtain ⟨rfl, rfl, e3q⟩ := hQ3
  have N3 := Fr.app N2 (Fr.nil n0)
  have pre4 : ∀ t, Steps p.tables e below (T3.setTop (mkF m 27 #[.val (.ref va), .val (.ref vt), .val (.int vss), .val (.int (0 : Int32)), .unset, .unset, .unset] [])) t → Steps p.tables e below (s₁.setTop (entryFrame m #[(.ref va), (.ref vt), (.int vss)] 7)) t := by
    intro t kt
    refine pre0 t ?_
    show Steps p.tables e below (s₁.setTop (mkF m 0 #[.val (.ref va), .val (.ref vt), .val (.int vss), .unset, .unset, .unset, .unset] [])) _
    refine XS.aloadN X0.here hx rfl (hb hby d9_0) rfl rfl ?_
    show Steps p.tables e below (s₁.setTop (mkF m 1 #[.val (.ref va), .val (.ref vt), .val (.int vss), .unset, .unset, .unset, .unset] [(.ref va)])) _
    refine st1 _ ?_
    show Steps p.tables e below (T1.setTop (mkF m 4 #[.val (.ref va), .val (.ref vt), .val (.int vss), .unset, .unset, .unset, .unset] [])) _
    refine XS.aloadN X1.here hx rfl (hb hby d9_4) rfl rfl ?_
    show Steps p.tables e below (T1.setTop (mkF m 5 #[.val (.ref va), .val (.ref vt), .val (.int vss), .unset, .unset, .unset, .unset] [(.ref vt)])) _
    refine st2.trans ?_
    show Steps p.tables e below (T2.setTop (mkF m 8 #[.val (.ref va), .val (.ref vt), .val (.int vss), .unset, .unset, .unset, .unset] [(.int (if cs.length = 0 then 1 else 0))])) _
    refine XS.ifNo X2.here hx rfl (hb hby d9_8) rfl ((if0 _ _).trans (teq ((if_neg (by omega)) : (if cs.length = 0 then 1 else 0) = (0 : Int32))).2) ?_
    show Steps p.tables e below (T2.setTop (mkF m 11 #[.val (.ref va), .val (.ref vt), .val (.int vss), .unset, .unset, .unset, .unset] [])) _
    refine XS.aloadN X2.here hx rfl (hb hby d9_11) rfl rfl ?_
    show Steps p.tables e below (T2.setTop (mkF m 12 #[.val (.ref va), .val (.ref vt), .val (.int vss), .unset, .unset, .unset, .unset] [(.ref vt)])) _
    refine st3.trans ?_
    show Steps p.tables e below (T3.setTop (mkF m 15 #[.val (.ref va), .val (.ref vt), .val (.int vss), .unset, .unset, .unset, .unset] [(.int (Int32.ofNat cs.length))])) _
    refine XS.bipush X3.here hx rfl (hb hby d9_15) ?_
    show Steps p.tables e below (T3.setTop (mkF m 17 #[.val (.ref va), .val (.ref vt), .val (.int vss), .unset, .unset, .unset, .unset] [(.int (6 : Int32)), (.int (Int32.ofNat cs.length))])) _
    refine XS.icmpYes X3.here hx rfl (pc0 := 17) (pc' := 25) rfl (hb hby d9_17) rfl (flt ((fun q => absurd ((own_lt32 (i := 6) (by omega) (by omega)).mp q) (by omega)) : ¬ ((6 : Int32) < (Int32.ofNat cs.length)))).2.2.2 (by decide) (by decide) ?_
    show Steps p.tables e below (T3.setTop (mkF m 25 #[.val (.ref va), .val (.ref vt), .val (.int vss), .unset, .unset, .unset, .unset] [])) _
    refine XS.iconst X3.here hx rfl (hb hby d9_25) ?_
    show Steps p.tables e below (T3.setTop (mkF m 26 #[.val (.ref va), .val (.ref vt), .val (.int vss), .unset, .unset, .unset, .unset] [(.int (0 : Int32))])) _
    refine XS.istoreN X3.here hx rfl (hb hby d9_26) rfl (l' := #[.val (.ref va), .val (.ref vt), .val (.int vss), .val (.int (0 : Int32)), .unset, .unset, .unset]) rfl ?_
    exact kt
  obtain ⟨T5, h5, L5, X5, e5, N5, -, hh5, run5⟩ := own_l1 hx hZ hw hby hml hown va vt vb kb NN cs vz fm vss hcd hbd hcs rfm hl4 hl1 hl6 hok cs.length 0 T3 _ h0 X3 e3q N3 Z0 (by omega) Et Ftv Ftc Vb S_cs S_fm
  have ee5 := e5.trans hh5
  have pre6 : ∀ t, Steps p.tables e below (T5.setTop (mkF m 87 #[.val (.ref va), .val (.ref vt), .val (.int vss), .val (.long (0 : Int64)), .second, .val (.int (0 : Int32)), .unset] [])) t → Steps p.tables e below (s₁.setTop (entryFrame m #[(.ref va), (.ref vt), (.int vss)] 7)) t := by
    intro t kt
    refine pre4 t ?_
    show Steps p.tables e below (T3.setTop (mkF m 27 #[.val (.ref va), .val (.ref vt), .val (.int vss), .val (.int (0 : Int32)), .unset, .unset, .unset] [])) _
    refine run5 _ ?_
    show Steps p.tables e below (T5.setTop (mkF m 57 #[.val (.ref va), .val (.ref vt), .val (.int vss), .val (.int (Int32.ofNat cs.length)), .unset, .unset, .unset] [])) _
    refine XS.iloadN X5.here hx rfl (hb hby d9_57) rfl ?_
    show Steps p.tables e below (T5.setTop (mkF m 58 #[.val (.ref va), .val (.ref vt), .val (.int vss), .val (.int (Int32.ofNat cs.length)), .unset, .unset, .unset] [(.int vss)])) _
    refine XS.ifNo X5.here hx rfl (hb hby d9_58) rfl ((if0 _ _).trans (flt (hs0 : ¬ (vss < (0 : Int32)))).1) ?_
    show Steps p.tables e below (T5.setTop (mkF m 61 #[.val (.ref va), .val (.ref vt), .val (.int vss), .val (.int (Int32.ofNat cs.length)), .unset, .unset, .unset] [])) _
    refine XS.iloadN X5.here hx rfl (hb hby d9_61) rfl ?_
    show Steps p.tables e below (T5.setTop (mkF m 62 #[.val (.ref va), .val (.ref vt), .val (.int vss), .val (.int (Int32.ofNat cs.length)), .unset, .unset, .unset] [(.int vss)])) _
    refine XS.bipush X5.here hx rfl (hb hby d9_62) ?_
    show Steps p.tables e below (T5.setTop (mkF m 64 #[.val (.ref va), .val (.ref vt), .val (.int vss), .val (.int (Int32.ofNat cs.length)), .unset, .unset, .unset] [(.int (15 : Int32)), (.int vss)])) _
    refine XS.icmpYes X5.here hx rfl (pc0 := 64) (pc' := 82) rfl (hb hby d9_64) rfl (flt (hs15 : ¬ ((15 : Int32) < vss))).2.2.2 (by decide) (by decide) ?_
    show Steps p.tables e below (T5.setTop (mkF m 82 #[.val (.ref va), .val (.ref vt), .val (.int vss), .val (.int (Int32.ofNat cs.length)), .unset, .unset, .unset] [])) _
    refine XS.lconst X5.here hx rfl (hb hby d9_82) ?_
    show Steps p.tables e below (T5.setTop (mkF m 83 #[.val (.ref va), .val (.ref vt), .val (.int vss), .val (.int (Int32.ofNat cs.length)), .unset, .unset, .unset] [(.long (0 : Int64))])) _
    refine XS.lstoreN X5.here hx rfl (hb hby d9_83) rfl (l' := #[.val (.ref va), .val (.ref vt), .val (.int vss), .val (.long (0 : Int64)), .second, .unset, .unset]) rfl ?_
    show Steps p.tables e below (T5.setTop (mkF m 84 #[.val (.ref va), .val (.ref vt), .val (.int vss), .val (.long (0 : Int64)), .second, .unset, .unset] [])) _
    refine XS.iconst X5.here hx rfl (hb hby d9_84) ?_
    show Steps p.tables e below (T5.setTop (mkF m 85 #[.val (.ref va), .val (.ref vt), .val (.int vss), .val (.long (0 : Int64)), .second, .unset, .unset] [(.int (0 : Int32))])) _
    refine XS.istore X5.here hx rfl (hb hby d9_85) rfl (l' := #[.val (.ref va), .val (.ref vt), .val (.int vss), .val (.long (0 : Int64)), .second, .val (.int (0 : Int32)), .unset]) rfl ?_
    exact kt
  obtain ⟨T7, h7, L7, s9, X7, e7, N7, -, hh7, run7⟩ := own_l2 hx hZ hw hby hml hown va vt vb kb NN cs vz fm vss hcd hbd hcs rfm hl4 hl1 hl6 hok 6 0 (0 : Int64) .unset T5 _ h0 X5 ee5 N5 Z0 (by omega) One.u Et Ftv Ftc Vb S_cs S_fm
  have ee7 := e7.trans hh7
  obtain ⟨T8, h8, X8, e8, W8, st8⟩ := putF X7 hx hZ hown (host := "") (Or.inl (hw _ (List.mem_of_getElem? (i := 89) rfl))) Via.refl ee7 Fch Ea (Or.inr ⟨(hw _ (List.mem_of_getElem? (i := 90) rfl)), rfl, hnm⟩) (hw _ (List.mem_of_getElem? (i := 40) rfl)) (ty := .long) (by decide) rfl rfl (g := (mkF m 133 #[.val (.ref va), .val (.ref vt), .val (.int vss), .val (.long (own_chk cs 6 0 (0 : Int64))), .second, .val (.int (Int32.ofNat 6)), s9] [(.long (own_chk cs 6 0 (0 : Int64))), (.ref va)])) rfl rfl (hb hby d9_133)
  have Fw8 : Fld Z h8 va "com/example/packet_radio_link/packetradiolink/frame/Address" "characters" "J" (.long (own_chk cs 6 0 (0 : Int64))) := Fch.same W8
  have c9 : Exa Z h8 va "com/example/packet_radio_link/packetradiolink/frame/Address" := Ea.wr W8
  have c10 : Fld Z h8 va "com/example/packet_radio_link/packetradiolink/frame/Address" "ssid" "I" (.int (0 : Int32)) := Fss.other W8 (Or.inr (slot_ne (Or.inr (hw _ (List.mem_of_getElem? (i := 92) rfl))) (Or.inr (hw _ (List.mem_of_getElem? (i := 90) rfl))) (by decide) (t := .int) (t' := .long) (by decide) (by decide)))
  have c11 : Exa Z h8 vt "java/lang/String" := Et.wr W8
  have c12 : Fld Z h8 vt "java/lang/String" "value" "[B" (.ref vb) := Ftv.other W8 (Or.inl (Ne.symm nat_))
  have c13 : Fld Z h8 vt "java/lang/String" "coder" "B" (.int (0 : Int32)) := Ftc.other W8 (Or.inl (Ne.symm nat_))
  have c14 : Arv Z h8 vb kb .byte NN (List.map Value.int (List.map (fun c => c.toInt8.toInt32) cs)) (.int (0 : Int32)) := Vb.other W8 (Ne.symm nab_)
  have c15 : Sta Z h8 "java/lang/String" "COMPACT_STRINGS" "Z" (.int vz) := S_cs.wr W8
  have c16 : Sta Z h8 "jdk/internal/util/Preconditions" "SIOOBE_FORMATTER" "Ljava/util/function/BiFunction;" fm := S_fm.wr W8
  have Z8 : n0 ≤ h8.size := Nat.le_trans Z0 (Keep.of_wr W8).1
  have N8 := Fr.snoc X8 N7 g_va
  have K8 : Keep h0 h8 [va] := (Keep.refl h0 [va]).wr W8 (Or.inl (List.mem_of_getElem? (i := 0) rfl))
  obtain ⟨T17, h17, X17, e17, W17, st17⟩ := putF X8 hx hZ hown (host := "") (Or.inl (hw _ (List.mem_of_getElem? (i := 91) rfl))) Via.refl e8 c10 c9 (Or.inr ⟨(hw _ (List.mem_of_getElem? (i := 92) rfl)), rfl, hnm⟩) (hw _ (List.mem_of_getElem? (i := 40) rfl)) (ty := .int) (by decide) rfl rfl (g := (mkF m 138 #[.val (.ref va), .val (.ref vt), .val (.int vss), .val (.long (own_chk cs 6 0 (0 : Int64))), .second, .val (.int (Int32.ofNat 6)), s9] [(.int vss), (.ref va)])) rfl rfl (hb hby d9_138)
  have Fw17 : Fld Z h17 va "com/example/packet_radio_link/packetradiolink/frame/Address" "ssid" "I" (.int vss) := c10.same W17
  have c18 : Exa Z h17 va "com/example/packet_radio_link/packetradiolink/frame/Address" := c9.wr W17
  have c19 : Fld Z h17 va "com/example/packet_radio_link/packetradiolink/frame/Address" "characters" "J" (.long (own_chk cs 6 0 (0 : Int64))) := Fw8.other W17 (Or.inr (slot_ne (Or.inr (hw _ (List.mem_of_getElem? (i := 90) rfl))) (Or.inr (hw _ (List.mem_of_getElem? (i := 92) rfl))) (by decide) (t := .long) (t' := .int) (by decide) (by decide)))
  have c20 : Exa Z h17 vt "java/lang/String" := c11.wr W17
  have c21 : Fld Z h17 vt "java/lang/String" "value" "[B" (.ref vb) := c12.other W17 (Or.inl (Ne.symm nat_))
  have c22 : Fld Z h17 vt "java/lang/String" "coder" "B" (.int (0 : Int32)) := c13.other W17 (Or.inl (Ne.symm nat_))
  have c23 : Arv Z h17 vb kb .byte NN (List.map Value.int (List.map (fun c => c.toInt8.toInt32) cs)) (.int (0 : Int32)) := c14.other W17 (Ne.symm nab_)
  have c24 : Sta Z h17 "java/lang/String" "COMPACT_STRINGS" "Z" (.int vz) := c15.wr W17
  have c25 : Sta Z h17 "jdk/internal/util/Preconditions" "SIOOBE_FORMATTER" "Ljava/util/function/BiFunction;" fm := c16.wr W17
  have Z17 : n0 ≤ h17.size := Nat.le_trans Z8 (Keep.of_wr W17).1
  have N17 := Fr.snoc X17 N8 g_va
  have K17 : Keep h0 h17 [va] := K8.wr W17 (Or.inl (List.mem_of_getElem? (i := 0) rfl))
  obtain ⟨fs, hr, hrun, hended, hW, hsame⟩ := X17.leave (v := none) (fun _ => rfl) (hlocks := BodyLoose.notSynchronized Bd)
  refine ⟨_, _, pre6 _ ?_, hrun, hended, _, _, rfl, ?_, ⟨_, rfl⟩, hW, hsame.mono (by decide) (by decide)⟩
  ·
    show Steps p.tables e below (T5.setTop (mkF m 87 #[.val (.ref va), .val (.ref vt), .val (.int vss), .val (.long (0 : Int64)), .second, .val (.int (0 : Int32)), .unset] [])) _
    refine run7 _ ?_
    show Steps p.tables e below (T7.setTop (mkF m 131 #[.val (.ref va), .val (.ref vt), .val (.int vss), .val (.long (own_chk cs 6 0 (0 : Int64))), .second, .val (.int (Int32.ofNat 6)), s9] [])) _
    refine XS.aloadN X7.here hx rfl (hb hby d9_131) rfl rfl ?_
    show Steps p.tables e below (T7.setTop (mkF m 132 #[.val (.ref va), .val (.ref vt), .val (.int vss), .val (.long (own_chk cs 6 0 (0 : Int64))), .second, .val (.int (Int32.ofNat 6)), s9] [(.ref va)])) _
    refine XS.lloadN X7.here hx rfl (hb hby d9_132) rfl ?_
    show Steps p.tables e below (T7.setTop (mkF m 133 #[.val (.ref va), .val (.ref vt), .val (.int vss), .val (.long (own_chk cs 6 0 (0 : Int64))), .second, .val (.int (Int32.ofNat 6)), s9] [(.long (own_chk cs 6 0 (0 : Int64))), (.ref va)])) _
    refine st8 _ ?_
    show Steps p.tables e below (T8.setTop (mkF m 136 #[.val (.ref va), .val (.ref vt), .val (.int vss), .val (.long (own_chk cs 6 0 (0 : Int64))), .second, .val (.int (Int32.ofNat 6)), s9] [])) _
    refine XS.aloadN X8.here hx rfl (hb hby d9_136) rfl rfl ?_
    show Steps p.tables e below (T8.setTop (mkF m 137 #[.val (.ref va), .val (.ref vt), .val (.int vss), .val (.long (own_chk cs 6 0 (0 : Int64))), .second, .val (.int (Int32.ofNat 6)), s9] [(.ref va)])) _
    refine XS.iloadN X8.here hx rfl (hb hby d9_137) rfl ?_
    show Steps p.tables e below (T8.setTop (mkF m 138 #[.val (.ref va), .val (.ref vt), .val (.int vss), .val (.long (own_chk cs 6 0 (0 : Int64))), .second, .val (.int (Int32.ofNat 6)), s9] [(.int vss), (.ref va)])) _
    refine st17 _ ?_
    show Steps p.tables e below (T17.setTop (mkF m 141 #[.val (.ref va), .val (.ref vt), .val (.int vss), .val (.long (own_chk cs 6 0 (0 : Int64))), .second, .val (.int (Int32.ofNat 6)), s9] [])) _
    exact X17.returnOut hx Bd.returns (hb hby d9_141) hr
  ·
    show Q9 Z va vt vss vb kb NN cs vz fm h0 n0 _ T17.heap _
    rw [e17]
    exact ⟨rfl, N17, K17, c18, c19, Fw17⟩
theorem d20_0 : decode prog_1_method_9_code 0 = .ok (.aload_n 1, 1) := by decide +kernel
theorem d20_1 : decode prog_1_method_9_code 1 = .ok (.instanceof 17, 3) := by decide +kernel
theorem d20_4 : decode prog_1_method_9_code 4 = .ok (.ifCond .eq 36, 3) := by decide +kernel
theorem d20_7 : decode prog_1_method_9_code 7 = .ok (.aload_n 0, 1) := by decide +kernel
theorem d20_8 : decode prog_1_method_9_code 8 = .ok (.getfield 47, 3) := by decide +kernel
theorem d20_11 : decode prog_1_method_9_code 11 = .ok (.aload_n 1, 1) := by decide +kernel
theorem d20_12 : decode prog_1_method_9_code 12 = .ok (.checkcast 17, 3) := by decide +kernel
theorem d20_15 : decode prog_1_method_9_code 15 = .ok (.getfield 47, 3) := by decide +kernel
theorem d20_18 : decode prog_1_method_9_code 18 = .ok (.lcmp, 1) := by decide +kernel
theorem d20_19 : decode prog_1_method_9_code 19 = .ok (.ifCond .ne 21, 3) := by decide +kernel
theorem d20_22 : decode prog_1_method_9_code 22 = .ok (.aload_n 0, 1) := by decide +kernel
theorem d20_23 : decode prog_1_method_9_code 23 = .ok (.getfield 51, 3) := by decide +kernel
theorem d20_26 : decode prog_1_method_9_code 26 = .ok (.aload_n 1, 1) := by decide +kernel
theorem d20_27 : decode prog_1_method_9_code 27 = .ok (.checkcast 17, 3) := by decide +kernel
theorem d20_30 : decode prog_1_method_9_code 30 = .ok (.getfield 51, 3) := by decide +kernel
theorem d20_33 : decode prog_1_method_9_code 33 = .ok (.if_icmp .ne 7, 3) := by decide +kernel
theorem d20_36 : decode prog_1_method_9_code 36 = .ok (.iconst 1, 1) := by decide +kernel
theorem d20_37 : decode prog_1_method_9_code 37 = .ok (.goto 4, 3) := by decide +kernel
theorem d20_41 : decode prog_1_method_9_code 41 = .ok (.ireturn, 1) := by decide +kernel
theorem d20_40 : decode prog_1_method_9_code 40 = .ok (.iconst 0, 1) := by decide +kernel
theorem ef_rm20 (m : MethodId) (x0 : Addr) (x1 : Addr) : entryFrame m #[(.ref x0), (.ref x1)] 2 = mkF m 0 #[.val (.ref x0), .val (.ref x1)] [] := by first | (simp [entryFrame, mkF, argsToLocals, Value.category]; done) | rfl
def own_eq (va : Addr) (vo : Addr) (q1 : Int64) (s1 : Int32) (q2 : Int64) (s2 : Int32) : Int32 := (if q1 = q2 then (if s1 = s2 then (1 : Int32) else (0 : Int32)) else (0 : Int32))
def Q20 (Z : State) (va : Addr) (vo : Addr) (q1 : Int64) (s1 : Int32) (q2 : Int64) (s2 : Int32) (h0 : Heap) (n0 : Nat) (v : Option Value) (h : Heap) (L : List Loc) : Prop := v = some (.int (own_eq va vo q1 s1 q2 s2)) ∧ Fr n0 L ∧ h = h0
set_option maxRecDepth 65536 in
set_option maxHeartbeats 40000000 in
theorem rm20 (l : Launch) (Z : State) (a0 : Array Value) (hw : ∀ d ∈ tables_1, d.before a0 Z = true) (ws : List Jvm.Cond) (va : Addr) (vo : Addr) (q1 : Int64) (s1 : Int32) (q2 : Int64) (s2 : Int32) (h0 : Heap) (n0 : Nat) (Z0 : n0 ≤ h0.size) (Ea : Exa Z h0 va "com/example/packet_radio_link/packetradiolink/frame/Address") (F1c : Fld Z h0 va "com/example/packet_radio_link/packetradiolink/frame/Address" "characters" "J" (.long q1)) (F1s : Fld Z h0 va "com/example/packet_radio_link/packetradiolink/frame/Address" "ssid" "I" (.int s1)) (Eo : Exa Z h0 vo "com/example/packet_radio_link/packetradiolink/frame/Address") (F2c : Fld Z h0 vo "com/example/packet_radio_link/packetradiolink/frame/Address" "characters" "J" (.long q2)) (F2s : Fld Z h0 vo "com/example/packet_radio_link/packetradiolink/frame/Address" "ssid" "I" (.int s2)) :
    MetFree l (⟨"com/example/packet_radio_link/packetradiolink/frame/Address", "equals", "(Ljava/lang/Object;)Z"⟩ : MethodName) (head1 (Jvm.Cond.code (⟨"com/example/packet_radio_link/packetradiolink/frame/Address", "equals", "(Ljava/lang/Object;)Z"⟩ : MethodName) prog_1_method_9_code 2 (some .boolean) :: ws) ({ frames := 0, cells := 0, slots := 0, locals := 0 } : Room)) (fun a U => a = #[(.ref va), (.ref vo)] ∧ Z.Warmed39 U.vm ∧ U.heap = h0) (fun _ _ _ _ _ => True) (fun _ U o U' => ∃ v L, o = .returned v ∧ Q20 Z va vo q1 s1 q2 s2 h0 n0 v U'.heap L ∧ FrameEnd U o U' L ({ frames := 0, cells := 0, slots := 0, locals := 0 } : Room).cells ({ frames := 0, cells := 0, slots := 0, locals := 0 } : Room).slots) := by
  refine MetFree.of_bodySF (plainFor_of_name pn_43) hisR ?_
  intro p e s m args below meth c s₁ Bd hml0 hP hK
  obtain ⟨rfl, hZ, hh⟩ := hP
  have hx := Bd.exec
  have hby := Bd.bytes
  have hml : c.maxLocals = 2 := hml0
  have hown : s.vm.findClass "com/example/packet_radio_link/packetradiolink/frame/Address" = some m.cls := findClass_of_methodNamed Bd.named
  have hnm := (name_of_methodNamed Bd.named Bd.method).1
  have X0 : Stand p l e ({ frames := 0, cells := 0, slots := 0, locals := 0 } : Room) s m #[(.ref va), (.ref vo)] below meth c s₁ [] 0 0 := Stand.of_body Bd
  have e0 : s₁.heap = h0 := by rw [← hh, Bd.state]; rfl
  have N0 := Fr.nil n0
  have pre0 : ∀ t, Steps p.tables e below (s₁.setTop (mkF m 0 #[.val (.ref va), .val (.ref vo)] [])) t → Steps p.tables e below (s₁.setTop (entryFrame m #[(.ref va), (.ref vo)] 2)) t := fun t k => castTop (ef_rm20 m va vo) k
  obtain ⟨T1, X1, e1, st1⟩ := instY X0 hx hZ hown (hw _ (List.mem_of_getElem? (i := 98) rfl)) e0 (Ins.self Eo) (g := (mkF m 1 #[.val (.ref va), .val (.ref vo)] [(.ref vo)])) rfl rfl (hb hby d20_1)
  obtain ⟨T2, X2, e2, st2⟩ := getF X1 hx hZ hown (host := "") (Or.inl (hw _ (List.mem_of_getElem? (i := 89) rfl))) Via.refl e1 F1c (g := (mkF m 8 #[.val (.ref va), .val (.ref vo)] [(.ref va)])) rfl rfl (hb hby d20_8)
  obtain ⟨T3, X3, e3, st3⟩ := castY X2 hx hZ hown (hw _ (List.mem_of_getElem? (i := 98) rfl)) e2 (Ins.self Eo) (g := (mkF m 12 #[.val (.ref va), .val (.ref vo)] [(.ref vo), (.long q1)])) rfl rfl (hb hby d20_12)
  obtain ⟨T4, X4, e4, st4⟩ := getF X3 hx hZ hown (host := "") (Or.inl (hw _ (List.mem_of_getElem? (i := 89) rfl))) Via.refl e3 F2c (g := (mkF m 15 #[.val (.ref va), .val (.ref vo)] [(.ref vo), (.long q1)])) rfl rfl (hb hby d20_15)
  have pre5 : ∀ t, Steps p.tables e below (T4.setTop (mkF m 19 #[.val (.ref va), .val (.ref vo)] [(.int (lcmpW q1 q2))])) t → Steps p.tables e below (s₁.setTop (entryFrame m #[(.ref va), (.ref vo)] 2)) t := by
    intro t kt
    refine pre0 t ?_
    show Steps p.tables e below (s₁.setTop (mkF m 0 #[.val (.ref va), .val (.ref vo)] [])) _
    refine XS.aloadN X0.here hx rfl (hb hby d20_0) rfl rfl ?_
    show Steps p.tables e below (s₁.setTop (mkF m 1 #[.val (.ref va), .val (.ref vo)] [(.ref vo)])) _
    refine st1 _ ?_
    show Steps p.tables e below (T1.setTop (mkF m 4 #[.val (.ref va), .val (.ref vo)] [(.int (1 : Int32))])) _
    refine XS.ifNo X1.here hx rfl (hb hby d20_4) rfl ((if0 _ _).trans (feq ((by decide) : ¬ ((1 : Int32) = (0 : Int32)))).1) ?_
    show Steps p.tables e below (T1.setTop (mkF m 7 #[.val (.ref va), .val (.ref vo)] [])) _
    refine XS.aloadN X1.here hx rfl (hb hby d20_7) rfl rfl ?_
    show Steps p.tables e below (T1.setTop (mkF m 8 #[.val (.ref va), .val (.ref vo)] [(.ref va)])) _
    refine st2 _ ?_
    show Steps p.tables e below (T2.setTop (mkF m 11 #[.val (.ref va), .val (.ref vo)] [(.long q1)])) _
    refine XS.aloadN X2.here hx rfl (hb hby d20_11) rfl rfl ?_
    show Steps p.tables e below (T2.setTop (mkF m 12 #[.val (.ref va), .val (.ref vo)] [(.ref vo), (.long q1)])) _
    refine st3 _ ?_
    show Steps p.tables e below (T3.setTop (mkF m 15 #[.val (.ref va), .val (.ref vo)] [(.ref vo), (.long q1)])) _
    refine st4 _ ?_
    show Steps p.tables e below (T4.setTop (mkF m 18 #[.val (.ref va), .val (.ref vo)] [(.long q2), (.long q1)])) _
    refine XS.lcmp X4.here hx rfl (hb hby d20_18) rfl ?_
    exact kt
  by_cases hc6 : q1 = q2
  ·
    obtain ⟨T7, X7, e7, st7⟩ := getF X4 hx hZ hown (host := "") (Or.inl (hw _ (List.mem_of_getElem? (i := 91) rfl))) Via.refl e4 F1s (g := (mkF m 23 #[.val (.ref va), .val (.ref vo)] [(.ref va)])) rfl rfl (hb hby d20_23)
    obtain ⟨T8, X8, e8, st8⟩ := castY X7 hx hZ hown (hw _ (List.mem_of_getElem? (i := 98) rfl)) e7 (Ins.self Eo) (g := (mkF m 27 #[.val (.ref va), .val (.ref vo)] [(.ref vo), (.int s1)])) rfl rfl (hb hby d20_27)
    obtain ⟨T9, X9, e9, st9⟩ := getF X8 hx hZ hown (host := "") (Or.inl (hw _ (List.mem_of_getElem? (i := 91) rfl))) Via.refl e8 F2s (g := (mkF m 30 #[.val (.ref va), .val (.ref vo)] [(.ref vo), (.int s1)])) rfl rfl (hb hby d20_30)
    have pre10 : ∀ t, Steps p.tables e below (T9.setTop (mkF m 33 #[.val (.ref va), .val (.ref vo)] [(.int s2), (.int s1)])) t → Steps p.tables e below (s₁.setTop (entryFrame m #[(.ref va), (.ref vo)] 2)) t := by
      intro t kt
      refine pre5 t ?_
      show Steps p.tables e below (T4.setTop (mkF m 19 #[.val (.ref va), .val (.ref vo)] [(.int (lcmpW q1 q2))])) _
      refine XS.ifNo X4.here hx rfl (hb hby d20_19) rfl ((if0 _ _).trans (teq (((lw_eq _ _).mpr hc6) : (lcmpW q1 q2) = (0 : Int32))).2) ?_
      show Steps p.tables e below (T4.setTop (mkF m 22 #[.val (.ref va), .val (.ref vo)] [])) _
      refine XS.aloadN X4.here hx rfl (hb hby d20_22) rfl rfl ?_
      show Steps p.tables e below (T4.setTop (mkF m 23 #[.val (.ref va), .val (.ref vo)] [(.ref va)])) _
      refine st7 _ ?_
      show Steps p.tables e below (T7.setTop (mkF m 26 #[.val (.ref va), .val (.ref vo)] [(.int s1)])) _
      refine XS.aloadN X7.here hx rfl (hb hby d20_26) rfl rfl ?_
      show Steps p.tables e below (T7.setTop (mkF m 27 #[.val (.ref va), .val (.ref vo)] [(.ref vo), (.int s1)])) _
      refine st8 _ ?_
      show Steps p.tables e below (T8.setTop (mkF m 30 #[.val (.ref va), .val (.ref vo)] [(.ref vo), (.int s1)])) _
      refine st9 _ ?_
      exact kt
    by_cases hc11 : s1 = s2
    ·
      obtain ⟨fs, hr, hrun, hended, hW, hsame⟩ := X9.leave (v := some (.int (1 : Int32))) (fun h => by rw [Bd.returns] at h; cases h) (hlocks := BodyLoose.notSynchronized Bd)
      refine ⟨_, _, pre10 _ ?_, hrun, hended, _, _, rfl, ?_, ⟨_, rfl⟩, hW, hsame.mono (by decide) (by decide)⟩
      ·
        show Steps p.tables e below (T9.setTop (mkF m 33 #[.val (.ref va), .val (.ref vo)] [(.int s2), (.int s1)])) _
        refine XS.icmpNo X9.here hx rfl (hb hby d20_33) rfl (teq (hc11 : s1 = s2)).2 ?_
        show Steps p.tables e below (T9.setTop (mkF m 36 #[.val (.ref va), .val (.ref vo)] [])) _
        refine XS.iconst X9.here hx rfl (hb hby d20_36) ?_
        show Steps p.tables e below (T9.setTop (mkF m 37 #[.val (.ref va), .val (.ref vo)] [(.int (1 : Int32))])) _
        refine XS.goto X9.here hx rfl (pc0 := 37) (pc' := 41) rfl (hb hby d20_37) (by decide) (by decide) ?_
        show Steps p.tables e below (T9.setTop (mkF m 41 #[.val (.ref va), .val (.ref vo)] [(.int (1 : Int32))])) _
        exact retN X9 hx (t := .boolean) Bd.returns (by simp) (hb hby d20_41) hr
      ·
        show Q20 Z va vo q1 s1 q2 s2 h0 n0 _ T9.heap _
        rw [e9]
        have hv : (1 : Int32) = (own_eq va vo q1 s1 q2 s2) := by rw [own_eq, if_pos hc6, if_pos hc11]
        exact ⟨(congrArg (fun z => some (Value.int z)) hv), N0, rfl⟩
    ·
      obtain ⟨fs, hr, hrun, hended, hW, hsame⟩ := X9.leave (v := some (.int (0 : Int32))) (fun h => by rw [Bd.returns] at h; cases h) (hlocks := BodyLoose.notSynchronized Bd)
      refine ⟨_, _, pre10 _ ?_, hrun, hended, _, _, rfl, ?_, ⟨_, rfl⟩, hW, hsame.mono (by decide) (by decide)⟩
      ·
        show Steps p.tables e below (T9.setTop (mkF m 33 #[.val (.ref va), .val (.ref vo)] [(.int s2), (.int s1)])) _
        refine XS.icmpYes X9.here hx rfl (pc0 := 33) (pc' := 40) rfl (hb hby d20_33) rfl (feq (hc11 : ¬ (s1 = s2))).2 (by decide) (by decide) ?_
        show Steps p.tables e below (T9.setTop (mkF m 40 #[.val (.ref va), .val (.ref vo)] [])) _
        refine XS.iconst X9.here hx rfl (hb hby d20_40) ?_
        show Steps p.tables e below (T9.setTop (mkF m 41 #[.val (.ref va), .val (.ref vo)] [(.int (0 : Int32))])) _
        exact retN X9 hx (t := .boolean) Bd.returns (by simp) (hb hby d20_41) hr
      ·
        show Q20 Z va vo q1 s1 q2 s2 h0 n0 _ T9.heap _
        rw [e9]
        have hv : (0 : Int32) = (own_eq va vo q1 s1 q2 s2) := by rw [own_eq, if_pos hc6, if_neg hc11]
        exact ⟨(congrArg (fun z => some (Value.int z)) hv), N0, rfl⟩
  ·
    obtain ⟨fs, hr, hrun, hended, hW, hsame⟩ := X4.leave (v := some (.int (0 : Int32))) (fun h => by rw [Bd.returns] at h; cases h) (hlocks := BodyLoose.notSynchronized Bd)
    refine ⟨_, _, pre5 _ ?_, hrun, hended, _, _, rfl, ?_, ⟨_, rfl⟩, hW, hsame.mono (by decide) (by decide)⟩
    ·
      show Steps p.tables e below (T4.setTop (mkF m 19 #[.val (.ref va), .val (.ref vo)] [(.int (lcmpW q1 q2))])) _
      refine XS.ifYes X4.here hx rfl (pc0 := 19) (pc' := 40) rfl (hb hby d20_19) rfl ((if0 _ _).trans (feq ((fun q => hc6 ((lw_eq _ _).mp q)) : ¬ ((lcmpW q1 q2) = (0 : Int32)))).2) (by decide) (by decide) ?_
      show Steps p.tables e below (T4.setTop (mkF m 40 #[.val (.ref va), .val (.ref vo)] [])) _
      refine XS.iconst X4.here hx rfl (hb hby d20_40) ?_
      show Steps p.tables e below (T4.setTop (mkF m 41 #[.val (.ref va), .val (.ref vo)] [(.int (0 : Int32))])) _
      exact retN X4 hx (t := .boolean) Bd.returns (by simp) (hb hby d20_41) hr
    ·
      show Q20 Z va vo q1 s1 q2 s2 h0 n0 _ T4.heap _
      rw [e4]
      have hv : (0 : Int32) = (own_eq va vo q1 s1 q2 s2) := by rw [own_eq, if_neg hc6]
      exact ⟨(congrArg (fun z => some (Value.int z)) hv), N0, rfl⟩
theorem ef_rmEn (m : MethodId) (x0 : Addr) : entryFrame m #[(.ref x0), .null] 2 = mkF m 0 #[.val (.ref x0), .val .null] [] := by first | (simp [entryFrame, mkF, argsToLocals, Value.category]; done) | rfl
def QEn (Z : State) (va : Addr) (h0 : Heap) (n0 : Nat) (v : Option Value) (h : Heap) (L : List Loc) : Prop := v = some (.int (0 : Int32)) ∧ Fr n0 L ∧ h = h0
set_option maxRecDepth 65536 in
set_option maxHeartbeats 40000000 in
theorem rmEn (l : Launch) (Z : State) (a0 : Array Value) (hw : ∀ d ∈ tables_1, d.before a0 Z = true) (ws : List Jvm.Cond) (va : Addr) (h0 : Heap) (n0 : Nat) (Z0 : n0 ≤ h0.size) :
    MetFree l (⟨"com/example/packet_radio_link/packetradiolink/frame/Address", "equals", "(Ljava/lang/Object;)Z"⟩ : MethodName) (head1 (Jvm.Cond.code (⟨"com/example/packet_radio_link/packetradiolink/frame/Address", "equals", "(Ljava/lang/Object;)Z"⟩ : MethodName) prog_1_method_9_code 2 (some .boolean) :: ws) ({ frames := 0, cells := 0, slots := 0, locals := 0 } : Room)) (fun a U => a = #[(.ref va), .null] ∧ Z.Warmed39 U.vm ∧ U.heap = h0) (fun _ _ _ _ _ => True) (fun _ U o U' => ∃ v L, o = .returned v ∧ QEn Z va h0 n0 v U'.heap L ∧ FrameEnd U o U' L ({ frames := 0, cells := 0, slots := 0, locals := 0 } : Room).cells ({ frames := 0, cells := 0, slots := 0, locals := 0 } : Room).slots) := by
  refine MetFree.of_bodySF (plainFor_of_name pn_43) hisR ?_
  intro p e s m args below meth c s₁ Bd hml0 hP hK
  obtain ⟨rfl, hZ, hh⟩ := hP
  have hx := Bd.exec
  have hby := Bd.bytes
  have hml : c.maxLocals = 2 := hml0
  have hown : s.vm.findClass "com/example/packet_radio_link/packetradiolink/frame/Address" = some m.cls := findClass_of_methodNamed Bd.named
  have hnm := (name_of_methodNamed Bd.named Bd.method).1
  have X0 : Stand p l e ({ frames := 0, cells := 0, slots := 0, locals := 0 } : Room) s m #[(.ref va), .null] below meth c s₁ [] 0 0 := Stand.of_body Bd
  have e0 : s₁.heap = h0 := by rw [← hh, Bd.state]; rfl
  have N0 := Fr.nil n0
  have pre0 : ∀ t, Steps p.tables e below (s₁.setTop (mkF m 0 #[.val (.ref va), .val .null] [])) t → Steps p.tables e below (s₁.setTop (entryFrame m #[(.ref va), .null] 2)) t := fun t k => castTop (ef_rmEn m va) k
  obtain ⟨fs, hr, hrun, hended, hW, hsame⟩ := X0.leave (v := some (.int (0 : Int32))) (fun h => by rw [Bd.returns] at h; cases h) (hlocks := BodyLoose.notSynchronized Bd)
  refine ⟨_, _, pre0 _ ?_, hrun, hended, _, _, rfl, ?_, ⟨_, rfl⟩, hW, hsame.mono (by decide) (by decide)⟩
  ·
    show Steps p.tables e below (s₁.setTop (mkF m 0 #[.val (.ref va), .val .null] [])) _
    refine XS.aloadN X0.here hx rfl (hb hby d20_0) rfl rfl ?_
    show Steps p.tables e below (s₁.setTop (mkF m 1 #[.val (.ref va), .val .null] [.null])) _
    refine X0.instanceofNull hx (g := (mkF m 1 #[.val (.ref va), .val .null] [.null])) rfl rfl (hb hby d20_1) _ ?_
    show Steps p.tables e below (s₁.setTop (mkF m 4 #[.val (.ref va), .val .null] [(.int (0 : Int32))])) _
    refine XS.ifYes X0.here hx rfl (pc0 := 4) (pc' := 40) rfl (hb hby d20_4) rfl ((if0 _ _).trans (teq ((by decide) : (0 : Int32) = (0 : Int32))).1) (by decide) (by decide) ?_
    show Steps p.tables e below (s₁.setTop (mkF m 40 #[.val (.ref va), .val .null] [])) _
    refine XS.iconst X0.here hx rfl (hb hby d20_40) ?_
    show Steps p.tables e below (s₁.setTop (mkF m 41 #[.val (.ref va), .val .null] [(.int (0 : Int32))])) _
    exact retN X0 hx (t := .boolean) Bd.returns (by simp) (hb hby d20_41) hr
  ·
    show QEn Z va h0 n0 _ s₁.heap _
    rw [e0]
    exact ⟨rfl, N0, rfl⟩
theorem own_nostr {Z : State} {a0 : Array Value} (w1 : (Cond.superclass "java/lang/String" "java/lang/Object").before a0 Z = true) (w3 : (Cond.noSuperclass "java/lang/Object").before a0 Z = true) (wi : (Cond.instantiable "com/example/packet_radio_link/packetradiolink/frame/Address" 2).before a0 Z = true) :
    ∃ c t, Z.vm.findClass "java/lang/String" = some c ∧ Z.vm.findClass "com/example/packet_radio_link/packetradiolink/frame/Address" = some t ∧ Z.vm.assignable c t = false := by
  obtain ⟨t, kt, g1, g2, g3, g4, -⟩ := Cond.instantiable_spec wi
  have n0 : NS Z "java/lang/Object" "com/example/packet_radio_link/packetradiolink/frame/Address" := by
    obtain ⟨c, k, h1, h2, h3, -, -⟩ := Cond.noSuperclass_spec w3
    have ne := ids_ne h1 g1 (by decide)
    refine ⟨c, t, h1, g1, fun fuel => ?_⟩
    cases fuel with
    | zero => rfl
    | succ f => simp [Vm.isSubclassAux, ne, h2, h3]
  obtain ⟨c, t', h0, g0, n3⟩ := NS.step w1 n0 (by decide)
  cases g1.symm.trans g0
  obtain ⟨p, k, kp, h1, h2, h3, h4, h5, -, h7⟩ := Cond.superclass_spec h0 w1
  have ne := ids_ne h0 g1 (by decide)
  refine ⟨c, t, h0, g1, ?_⟩
  show Z.vm.assignableAux (255 + 1) c t = false
  have g5 : kt.isInterface = false := by simp only [Bool.or_eq_false_iff] at g4; exact g4.1
  simp [Vm.assignableAux, ne, h2, g2, h5, g3, g5, Vm.isSubclass, n3]
theorem ef_rmEs (m : MethodId) (x0 : Addr) (x1 : Addr) : entryFrame m #[(.ref x0), (.ref x1)] 2 = mkF m 0 #[.val (.ref x0), .val (.ref x1)] [] := by first | (simp [entryFrame, mkF, argsToLocals, Value.category]; done) | rfl
def QEs (Z : State) (va : Addr) (vo : Addr) (h0 : Heap) (n0 : Nat) (v : Option Value) (h : Heap) (L : List Loc) : Prop := v = some (.int (0 : Int32)) ∧ Fr n0 L ∧ h = h0
set_option maxRecDepth 65536 in
set_option maxHeartbeats 40000000 in
theorem rmEs (l : Launch) (Z : State) (a0 : Array Value) (hw : ∀ d ∈ tables_1, d.before a0 Z = true) (ws : List Jvm.Cond) (va : Addr) (vo : Addr) (h0 : Heap) (n0 : Nat) (Z0 : n0 ≤ h0.size) (Eo : Exa Z h0 vo "java/lang/String") :
    MetFree l (⟨"com/example/packet_radio_link/packetradiolink/frame/Address", "equals", "(Ljava/lang/Object;)Z"⟩ : MethodName) (head1 (Jvm.Cond.code (⟨"com/example/packet_radio_link/packetradiolink/frame/Address", "equals", "(Ljava/lang/Object;)Z"⟩ : MethodName) prog_1_method_9_code 2 (some .boolean) :: ws) ({ frames := 0, cells := 0, slots := 0, locals := 0 } : Room)) (fun a U => a = #[(.ref va), (.ref vo)] ∧ Z.Warmed39 U.vm ∧ U.heap = h0) (fun _ _ _ _ _ => True) (fun _ U o U' => ∃ v L, o = .returned v ∧ QEs Z va vo h0 n0 v U'.heap L ∧ FrameEnd U o U' L ({ frames := 0, cells := 0, slots := 0, locals := 0 } : Room).cells ({ frames := 0, cells := 0, slots := 0, locals := 0 } : Room).slots) := by
  refine MetFree.of_bodySF (plainFor_of_name pn_43) hisR ?_
  intro p e s m args below meth c s₁ Bd hml0 hP hK
  obtain ⟨rfl, hZ, hh⟩ := hP
  have hx := Bd.exec
  have hby := Bd.bytes
  have hml : c.maxLocals = 2 := hml0
  have hown : s.vm.findClass "com/example/packet_radio_link/packetradiolink/frame/Address" = some m.cls := findClass_of_methodNamed Bd.named
  have hnm := (name_of_methodNamed Bd.named Bd.method).1
  have X0 : Stand p l e ({ frames := 0, cells := 0, slots := 0, locals := 0 } : Room) s m #[(.ref va), (.ref vo)] below meth c s₁ [] 0 0 := Stand.of_body Bd
  have e0 : s₁.heap = h0 := by rw [← hh, Bd.state]; rfl
  have N0 := Fr.nil n0
  have pre0 : ∀ t, Steps p.tables e below (s₁.setTop (mkF m 0 #[.val (.ref va), .val (.ref vo)] [])) t → Steps p.tables e below (s₁.setTop (entryFrame m #[(.ref va), (.ref vo)] 2)) t := fun t k => castTop (ef_rmEs m va vo) k
  obtain ⟨T1, X1, e1, st1⟩ := instNo X0 hx hZ hown (hw _ (List.mem_of_getElem? (i := 98) rfl)) e0 Eo (own_nostr (hw _ (List.mem_of_getElem? (i := 100) rfl)) (hw _ (List.mem_of_getElem? (i := 101) rfl)) (hw _ (List.mem_of_getElem? (i := 40) rfl))) (g := (mkF m 1 #[.val (.ref va), .val (.ref vo)] [(.ref vo)])) rfl rfl (hb hby d20_1)
  obtain ⟨fs, hr, hrun, hended, hW, hsame⟩ := X1.leave (v := some (.int (0 : Int32))) (fun h => by rw [Bd.returns] at h; cases h) (hlocks := BodyLoose.notSynchronized Bd)
  refine ⟨_, _, pre0 _ ?_, hrun, hended, _, _, rfl, ?_, ⟨_, rfl⟩, hW, hsame.mono (by decide) (by decide)⟩
  ·
    show Steps p.tables e below (s₁.setTop (mkF m 0 #[.val (.ref va), .val (.ref vo)] [])) _
    refine XS.aloadN X0.here hx rfl (hb hby d20_0) rfl rfl ?_
    show Steps p.tables e below (s₁.setTop (mkF m 1 #[.val (.ref va), .val (.ref vo)] [(.ref vo)])) _
    refine st1 _ ?_
    show Steps p.tables e below (T1.setTop (mkF m 4 #[.val (.ref va), .val (.ref vo)] [(.int (0 : Int32))])) _
    refine XS.ifYes X1.here hx rfl (pc0 := 4) (pc' := 40) rfl (hb hby d20_4) rfl ((if0 _ _).trans (teq ((by decide) : (0 : Int32) = (0 : Int32))).1) (by decide) (by decide) ?_
    show Steps p.tables e below (T1.setTop (mkF m 40 #[.val (.ref va), .val (.ref vo)] [])) _
    refine XS.iconst X1.here hx rfl (hb hby d20_40) ?_
    show Steps p.tables e below (T1.setTop (mkF m 41 #[.val (.ref va), .val (.ref vo)] [(.int (0 : Int32))])) _
    exact retN X1 hx (t := .boolean) Bd.returns (by simp) (hb hby d20_41) hr
  ·
    show QEs Z va vo h0 n0 _ T1.heap _
    rw [e1]
    exact ⟨rfl, N0, rfl⟩
def own_okc (c : Int32) : Prop := ∃ n : Nat, c = Int32.ofNat n ∧ ((48 ≤ n ∧ n ≤ 57) ∨ (65 ≤ n ∧ n ≤ 90))
theorem own_and_max32 (u : Int32) : 0 ≤ (u &&& (2147483647 : Int32)).toInt := by
  have : (u &&& (2147483647 : Int32)).toInt = (u.toBitVec &&& 2147483647#32).toInt := rfl
  rw [this, BitVec.toInt_eq_toNat_of_lt]
  · omega
  · rw [BitVec.toNat_and]
    have := Nat.and_le_right (n := u.toBitVec.toNat) (m := (2147483647#32).toNat)
    have e : (2147483647#32).toNat = 2147483647 := rfl
    omega
theorem own_ush3 (x : Int32) : 0 ≤ ((x.toUInt32 >>> ((3 : Int32) &&& 31).toUInt32).toInt32).toInt := by
  have e : ((x.toUInt32 >>> ((3 : Int32) &&& 31).toUInt32).toInt32).toInt = (x.toBitVec >>> 3).toInt := rfl
  rw [e, BitVec.toInt_eq_toNat_of_lt]
  · omega
  · rw [BitVec.toNat_ushiftRight, Nat.shiftRight_eq_div_pow]; have := x.toBitVec.isLt; omega
theorem own_mod {x : Int32} (h : 0 ≤ x.toInt) (m : Int32) (k : Nat) (hk : 0 < k) (hk2 : k < 2 ^ 31) (e : m.toInt = k) : ∃ n : Nat, n < k ∧ x % m = Int32.ofNat n := by
  have e1 : (x % m).toInt = x.toInt.tmod k := by rw [Int32.toInt_mod, e]
  have b1 := Int.tmod_nonneg k h
  have b2 := Int.tmod_lt_of_pos x.toInt (show (0 : Int) < k by omega)
  refine ⟨(x % m).toInt.toNat, by omega, ?_⟩
  apply Int32.toInt_inj.mp
  rw [Int32.toInt_ofNat_small (by omega)]; omega
theorem own_len {z u : Int32} (h : z = ((u &&& (2147483647 : Int32)) % (6 : Int32)) + (1 : Int32)) : ∃ n : Nat, 1 ≤ n ∧ n ≤ 6 ∧ z = Int32.ofNat n := by
  obtain ⟨n, hn, e⟩ := own_mod (own_and_max32 u) (6 : Int32) 6 (by decide) (by decide) rfl
  exact ⟨n + 1, by omega, by omega, by rw [h, e, own_one]⟩
theorem own_lenB {c : Prop} [Decidable c] {z u v : Int32} (h : z = if c then ((((u.toUInt32 >>> ((3 : Int32) &&& 31).toUInt32).toInt32) % (6 : Int32)) + (1 : Int32)) else (((v &&& (2147483647 : Int32)) % (6 : Int32)) + (1 : Int32))) : ∃ n : Nat, 1 ≤ n ∧ n ≤ 6 ∧ z = Int32.ofNat n := by
  split at h
  · obtain ⟨n, hn, e⟩ := own_mod (own_ush3 u) (6 : Int32) 6 (by decide) (by decide) rfl
    exact ⟨n + 1, by omega, by omega, by rw [h, e, own_one]⟩
  · exact own_len h
theorem own_msk (u : Int32) (m : Int32) (k : Nat) (e : m.toBitVec.toNat = k) : ∃ n : Nat, n ≤ k ∧ (u &&& m) = Int32.ofNat n := by
  refine ⟨(u &&& m).toBitVec.toNat, ?_, ?_⟩
  · rw [Int32.toBitVec_and, BitVec.toNat_and, e]; exact Nat.and_le_right
  · apply Int32.toBitVec_inj.mp
    show _ = BitVec.ofNat 32 _
    rw [BitVec.ofNat_toNat]; simp
theorem own_ss {z u : Int32} (h : z = u &&& (15 : Int32)) : ¬ z < (0 : Int32) ∧ ¬ (15 : Int32) < z := by
  obtain ⟨n, hn, e⟩ := own_msk u (15 : Int32) 15 rfl
  have t : ∀ n : Fin 16, ¬ Int32.ofNat n.val < (0 : Int32) ∧ ¬ (15 : Int32) < Int32.ofNat n.val := by decide +kernel
  rw [h, e]; exact t ⟨n, by omega⟩
theorem own_ssB {c : Prop} [Decidable c] {z u v : Int32} (h : z = if c then (u &&& (15 : Int32)) else (v &&& (15 : Int32))) : ¬ z < (0 : Int32) ∧ ¬ (15 : Int32) < z := by
  split at h
  · exact own_ss h
  · exact own_ss h
theorem own_msk63 (u : Int64) : ∃ n : Nat, n < 64 ∧ (u &&& (63 : Int64)).toInt32 = Int32.ofNat n := by
  have hn : (u &&& (63 : Int64)).toBitVec.toNat < 64 := by
    rw [Int64.toBitVec_and, BitVec.toNat_and]; exact Nat.lt_succ_of_le Nat.and_le_right
  have e : (u &&& (63 : Int64)) = Int64.ofNat (u &&& (63 : Int64)).toBitVec.toNat := by
    apply Int64.toBitVec_inj.mp
    show _ = BitVec.ofNat 64 _
    rw [BitVec.ofNat_toNat]; simp
  have t : ∀ n : Fin 64, (Int64.ofNat n.val).toInt32 = Int32.ofNat n.val := by decide +kernel
  exact ⟨_, hn, (congrArg Int64.toInt32 e).trans (t ⟨_, hn⟩)⟩
theorem own_ch_ok (b : Int64) (i : Int32) : own_okc (own_ch b i) := by
  unfold own_ch
  obtain ⟨n, hn, e⟩ := own_msk63 ((b.toUInt64 >>> (((6 : Int32) * i) &&& 0x3f).toInt64.toUInt64).toInt64)
  rw [e]
  have e36 : Int32.ofNat n % (36 : Int32) = Int32.ofNat (n % 36) := by
    have t : ∀ n : Fin 64, Int32.ofNat n.val % (36 : Int32) = Int32.ofNat (n.val % 36) := by decide +kernel
    exact t ⟨n, hn⟩
  rw [e36]
  have hm : n % 36 < 36 := Nat.mod_lt _ (by decide)
  generalize n % 36 = k at hm
  split
  · rename_i h
    have h := (own_lt32 (j := 26) (by omega) (by decide)).mp h
    have t : ∀ k : Fin 26, nar .char (((65 : Int32) + Int32.ofNat k.val).toUInt32.toUInt16.toUInt32.toInt32) = Int32.ofNat (65 + k.val) := by decide +kernel
    exact ⟨65 + k, t ⟨k, h⟩, Or.inr ⟨by omega, by omega⟩⟩
  · rename_i h
    have h : ¬ k < 26 := fun q => h ((own_lt32 (j := 26) (by omega) (by decide)).mpr q)
    have t : ∀ k : Fin 36, 26 ≤ k.val → nar .char (((48 : Int32) + (Int32.ofNat k.val - (26 : Int32))).toUInt32.toUInt16.toUInt32.toInt32) = Int32.ofNat (48 + (k.val - 26)) := by decide +kernel
    exact ⟨48 + (k - 26), t ⟨k, hm⟩ (by show 26 ≤ k; omega), Or.inl ⟨by omega, by omega⟩⟩
theorem own_nar {c : Int32} (h : own_okc c) : nar .char c = c := by
  obtain ⟨n, rfl, h⟩ := h
  have t : ∀ n : Fin 128, nar .char (Int32.ofNat n.val) = Int32.ofNat n.val := by decide +kernel
  exact t ⟨n, by omega⟩
theorem own_ok255 {c : Int32} (h : own_okc c) : ¬ c < 0 ∧ ¬ (255 : Int32) < c := by
  obtain ⟨n, rfl, h⟩ := h
  have t : ∀ n : Fin 128, ¬ Int32.ofNat n.val < 0 ∧ ¬ (255 : Int32) < Int32.ofNat n.val := by decide +kernel
  exact t ⟨n, by omega⟩
theorem own_okcsc {c : Int32} (h : own_okc c) : ¬ own_csc c = (0 : Int32) := by
  obtain ⟨n, rfl, h⟩ := h
  have t : ∀ n : Fin 128, ((48 ≤ n.val ∧ n.val ≤ 57) ∨ (65 ≤ n.val ∧ n.val ≤ 90)) → ¬ own_csc (Int32.ofNat n.val) = (0 : Int32) := by decide +kernel
  exact t ⟨n, by omega⟩ h
theorem own_okl {c0 c1 c2 c3 c4 c5 : Int32} (h0 : own_okc c0) (h1 : own_okc c1) (h2 : own_okc c2) (h3 : own_okc c3) (h4 : own_okc c4) (h5 : own_okc c5) : ∀ c ∈ ([nar .char c0, nar .char c1, nar .char c2, nar .char c3, nar .char c4, nar .char c5] : List Int32), own_okc c := by
  intro c hc
  rw [own_nar h0, own_nar h1, own_nar h2, own_nar h3, own_nar h4, own_nar h5] at hc
  simp only [List.mem_cons, List.not_mem_nil, or_false] at hc
  rcases hc with rfl | rfl | rfl | rfl | rfl | rfl <;> assumption
theorem own_tl {c0 c1 c2 c3 c4 c5 : Int32} {n : Nat} (h : n ≤ 6) : (List.take n ([c0, c1, c2, c3, c4, c5] : List Int32)).length = n := by
  rw [List.length_take]; show min n 6 = n; omega
theorem own_hok {l : List Int32} {n : Nat} (ok : ∀ c ∈ l, own_okc c) (ln : (List.take n l).length = n) : ∀ i, i < (List.take n l).length → ¬ own_csc ((List.take n l).getD i 0) = (0 : Int32) := by
  intro i hi
  apply own_okcsc
  apply ok
  rw [List.getD_eq_getElem?_getD, List.getElem?_eq_getElem hi]
  exact List.mem_of_mem_take (List.getElem_mem hi)
theorem own_six6 {n : Nat} (h1 : 1 ≤ n) (h6 : n ≤ 6) : n = 1 ∨ n = 2 ∨ n = 3 ∨ n = 4 ∨ n = 5 ∨ n = 6 := by omega
def own_same (lA lB sA sB a0 a1 a2 a3 a4 a5 b0 b1 b2 b3 b4 b5 : Int32) : Int32 :=
  if lA = lB ∧ sA = sB ∧ a0 = b0 ∧ (lA < (2 : Int32) ∨ a1 = b1) ∧ (lA < (3 : Int32) ∨ a2 = b2) ∧ (lA < (4 : Int32) ∨ a3 = b3) ∧ (lA < (5 : Int32) ∨ a4 = b4) ∧ (lA < (6 : Int32) ∨ a5 = b5) then (1 : Int32) else (0 : Int32)
theorem own_wc_nat {acc : Int64} {i n : Nat} (hi : i < 6) (ha : acc.toBitVec.toNat < 256 ^ i) (hn : n < 128) : (own_wc acc (Int32.ofNat i) (Int32.ofNat n)).toBitVec.toNat = acc.toBitVec.toNat + n * 256 ^ i := by
  have e1 : ((((8 : Int32) * Int32.ofNat i) &&& 0x3f).toInt64) = Int64.ofNat (8 * i) := by
    have t : ∀ i : Fin 6, ((((8 : Int32) * Int32.ofNat i.val) &&& 0x3f).toInt64) = Int64.ofNat (8 * i.val) := by decide +kernel
    exact t ⟨i, hi⟩
  have e2 : (Int32.ofNat n).toInt64 = Int64.ofNat n := by
    have t : ∀ n : Fin 128, (Int32.ofNat n.val).toInt64 = Int64.ofNat n.val := by decide +kernel
    exact t ⟨n, hn⟩
  have e3 : (own_wc acc (Int32.ofNat i) (Int32.ofNat n)).toBitVec = acc.toBitVec ||| ((BitVec.ofNat 64 n) <<< (8 * i)) := by
    rw [own_wc, Int64.toBitVec_or, Int64.toBitVec_shiftLeft, e1, e2]
    show acc.toBitVec ||| ((BitVec.ofNat 64 n) <<< ((Int64.ofNat (8 * i)).toBitVec.smod 64#64)) = _
    have e4 : ((Int64.ofNat (8 * i)).toBitVec.smod 64#64).toNat = 8 * i := by
      have t : ∀ i : Fin 6, ((Int64.ofNat (8 * i.val)).toBitVec.smod 64#64).toNat = 8 * i.val := by decide +kernel
      exact t ⟨i, hi⟩
    rw [BitVec.shiftLeft_eq', e4]
  have ep : (256 : Nat) ^ i = 2 ^ (8 * i) := by rw [Nat.pow_mul]
  have hb : n * 2 ^ (8 * i) < 2 ^ 64 := by
    have h1 : 2 ^ (8 * i) ≤ 2 ^ 40 := Nat.pow_le_pow_right (by decide) (by omega)
    calc n * 2 ^ (8 * i) ≤ 128 * 2 ^ 40 := Nat.mul_le_mul (by omega) h1
      _ < 2 ^ 64 := by decide
  rw [e3, BitVec.toNat_or, BitVec.toNat_shiftLeft, Nat.shiftLeft_eq, BitVec.toNat_ofNat, Nat.mod_eq_of_lt (by omega : n < 2 ^ 64), Nat.mod_eq_of_lt hb, ep]
  rw [ep] at ha
  rw [Nat.or_comm, ← Nat.shiftLeft_eq, ← Nat.shiftLeft_add_eq_or_of_lt ha, Nat.add_comm]
def own_pn (cs : List Int32) (i : Nat) : Nat := (own_pad cs i).toBitVec.toNat
theorem own_pad_nat {cs : List Int32} (ok : ∀ c ∈ cs, own_okc c) (i : Nat) : own_pad cs i = Int32.ofNat (own_pn cs i) ∧ own_pn cs i < 128 ∧ (i < cs.length → own_pn cs i ≠ 32) ∧ (¬ i < cs.length → own_pn cs i = 32) := by
  unfold own_pn own_pad
  by_cases h : i < cs.length
  · rw [if_pos h]
    obtain ⟨n, e, hn⟩ := ok (cs.getD i 0) (by rw [List.getD_eq_getElem?_getD, List.getElem?_eq_getElem h]; exact List.getElem_mem h)
    have en : (Int32.ofNat n).toBitVec.toNat = n := by
      have t : ∀ n : Fin 128, (Int32.ofNat n.val).toBitVec.toNat = n.val := by decide +kernel
      exact t ⟨n, by omega⟩
    rw [e, en]
    exact ⟨rfl, by omega, fun _ => by omega, fun q => absurd h q⟩
  · rw [if_neg h]
    exact ⟨rfl, by decide, fun q => absurd q h, fun _ => rfl⟩
theorem own_chk_nat {cs : List Int32} (ok : ∀ c ∈ cs, own_okc c) : (own_chk cs 6 0 (0 : Int64)).toBitVec.toNat = own_pn cs 0 + own_pn cs 1 * 256 + own_pn cs 2 * 256 ^ 2 + own_pn cs 3 * 256 ^ 3 + own_pn cs 4 * 256 ^ 4 + own_pn cs 5 * 256 ^ 5 := by
  obtain ⟨e0, l0, -⟩ := own_pad_nat ok 0
  obtain ⟨e1, l1, -⟩ := own_pad_nat ok 1
  obtain ⟨e2, l2, -⟩ := own_pad_nat ok 2
  obtain ⟨e3, l3, -⟩ := own_pad_nat ok 3
  obtain ⟨e4, l4, -⟩ := own_pad_nat ok 4
  obtain ⟨e5, l5, -⟩ := own_pad_nat ok 5
  simp only [own_chk, e0, e1, e2, e3, e4, e5, Nat.zero_add, Nat.reduceAdd]
  have z : (0 : Int64).toBitVec.toNat = 0 := rfl
  have h0 := own_wc_nat (acc := (0 : Int64)) (i := 0) (by decide) (by decide) l0
  rw [z] at h0
  have h1 := own_wc_nat (i := 1) (by decide) (by rw [h0]; omega) l1 (acc := own_wc 0 (Int32.ofNat 0) (Int32.ofNat (own_pn cs 0)))
  rw [h0] at h1
  have h2 := own_wc_nat (i := 2) (by decide) (by rw [h1]; omega) l2 (acc := own_wc (own_wc 0 (Int32.ofNat 0) (Int32.ofNat (own_pn cs 0))) (Int32.ofNat 1) (Int32.ofNat (own_pn cs 1)))
  rw [h1] at h2
  have h3 := own_wc_nat (i := 3) (by decide) (by rw [h2]; omega) l3 (acc := own_wc (own_wc (own_wc 0 (Int32.ofNat 0) (Int32.ofNat (own_pn cs 0))) (Int32.ofNat 1) (Int32.ofNat (own_pn cs 1))) (Int32.ofNat 2) (Int32.ofNat (own_pn cs 2)))
  rw [h2] at h3
  have h4 := own_wc_nat (i := 4) (by decide) (by rw [h3]; omega) l4 (acc := own_wc (own_wc (own_wc (own_wc 0 (Int32.ofNat 0) (Int32.ofNat (own_pn cs 0))) (Int32.ofNat 1) (Int32.ofNat (own_pn cs 1))) (Int32.ofNat 2) (Int32.ofNat (own_pn cs 2))) (Int32.ofNat 3) (Int32.ofNat (own_pn cs 3)))
  rw [h3] at h4
  have h5 := own_wc_nat (i := 5) (by decide) (by rw [h4]; omega) l5 (acc := own_wc (own_wc (own_wc (own_wc (own_wc 0 (Int32.ofNat 0) (Int32.ofNat (own_pn cs 0))) (Int32.ofNat 1) (Int32.ofNat (own_pn cs 1))) (Int32.ofNat 2) (Int32.ofNat (own_pn cs 2))) (Int32.ofNat 3) (Int32.ofNat (own_pn cs 3))) (Int32.ofNat 4) (Int32.ofNat (own_pn cs 4)))
  rw [h4] at h5
  rw [h5]; omega
theorem own_chk_eq {cs ds : List Int32} (ok : ∀ c ∈ cs, own_okc c) (ok' : ∀ c ∈ ds, own_okc c) : own_chk cs 6 0 (0 : Int64) = own_chk ds 6 0 (0 : Int64) ↔ ∀ i, i < 6 → own_pad cs i = own_pad ds i := by
  constructor
  · intro h
    have hn := congrArg (fun x => x.toBitVec.toNat) h
    rw [own_chk_nat ok, own_chk_nat ok'] at hn
    have a0 := (own_pad_nat ok 0).2.1
    have a1 := (own_pad_nat ok 1).2.1
    have a2 := (own_pad_nat ok 2).2.1
    have a3 := (own_pad_nat ok 3).2.1
    have a4 := (own_pad_nat ok 4).2.1
    have a5 := (own_pad_nat ok 5).2.1
    have b0 := (own_pad_nat ok' 0).2.1
    have b1 := (own_pad_nat ok' 1).2.1
    have b2 := (own_pad_nat ok' 2).2.1
    have b3 := (own_pad_nat ok' 3).2.1
    have b4 := (own_pad_nat ok' 4).2.1
    have b5 := (own_pad_nat ok' 5).2.1
    intro i hi
    rw [(own_pad_nat ok i).1, (own_pad_nat ok' i).1]
    congr 1
    match i, hi with
    | 0, _ => omega
    | 1, _ => omega
    | 2, _ => omega
    | 3, _ => omega
    | 4, _ => omega
    | 5, _ => omega
  · intro h
    simp only [own_chk]
    rw [h 0 (by decide), h (0 + 1) (by decide), h (0 + 1 + 1) (by decide), h (0 + 1 + 1 + 1) (by decide), h (0 + 1 + 1 + 1 + 1) (by decide), h (0 + 1 + 1 + 1 + 1 + 1) (by decide)]
theorem own_pads {cs ds : List Int32} (ok : ∀ c ∈ cs, own_okc c) (ok' : ∀ c ∈ ds, own_okc c) (h6 : cs.length ≤ 6) (h6' : ds.length ≤ 6) : (∀ i, i < 6 → own_pad cs i = own_pad ds i) ↔ (cs.length = ds.length ∧ ∀ i, i < cs.length → cs.getD i 0 = ds.getD i 0) := by
  constructor
  · intro h
    have hl : cs.length = ds.length := by
      rcases Nat.lt_trichotomy cs.length ds.length with q | q | q
      · have e := h cs.length (by omega)
        have p1 := (own_pad_nat ok cs.length).2.2.2 (Nat.lt_irrefl _)
        have p2 := (own_pad_nat ok' cs.length).2.2.1 q
        unfold own_pn at p1 p2
        rw [e] at p1
        exact absurd p1 p2
      · exact q
      · have e := h ds.length (by omega)
        have p1 := (own_pad_nat ok' ds.length).2.2.2 (Nat.lt_irrefl _)
        have p2 := (own_pad_nat ok ds.length).2.2.1 q
        unfold own_pn at p1 p2
        rw [← e] at p1
        exact absurd p1 p2
    refine ⟨hl, fun i hi => ?_⟩
    have e := h i (by omega)
    rw [own_pad, own_pad, if_pos hi, if_pos (by omega)] at e
    exact e
  · rintro ⟨hl, h⟩ i hi
    unfold own_pad
    by_cases q : i < cs.length
    · rw [if_pos q, if_pos (by omega)]; exact h i q
    · rw [if_neg q, if_neg (by omega)]
theorem own_takeD {l : List Int32} {n i : Nat} (h : i < n) : (List.take n l).getD i 0 = l.getD i 0 := by
  rw [List.getD_eq_getElem?_getD, List.getD_eq_getElem?_getD, List.getElem?_take, if_pos h]
theorem own_fin0 {nA nB : Nat} {a0 a1 a2 a3 a4 a5 b0 b1 b2 b3 b4 b5 : Int32} (a1n : 1 ≤ nA) (a6n : nA ≤ 6) (b1n : 1 ≤ nB) (b6n : nB ≤ 6) (oa0 : own_okc a0) (oa1 : own_okc a1) (oa2 : own_okc a2) (oa3 : own_okc a3) (oa4 : own_okc a4) (oa5 : own_okc a5) (ob0 : own_okc b0) (ob1 : own_okc b1) (ob2 : own_okc b2) (ob3 : own_okc b3) (ob4 : own_okc b4) (ob5 : own_okc b5) :
    (own_chk (List.take nA ([nar .char a0, nar .char a1, nar .char a2, nar .char a3, nar .char a4, nar .char a5] : List Int32)) 6 0 (0 : Int64) = own_chk (List.take nB ([nar .char b0, nar .char b1, nar .char b2, nar .char b3, nar .char b4, nar .char b5] : List Int32)) 6 0 (0 : Int64)) ↔
    (Int32.ofNat nA = Int32.ofNat nB ∧ a0 = b0 ∧ (Int32.ofNat nA < (2 : Int32) ∨ a1 = b1) ∧ (Int32.ofNat nA < (3 : Int32) ∨ a2 = b2) ∧ (Int32.ofNat nA < (4 : Int32) ∨ a3 = b3) ∧ (Int32.ofNat nA < (5 : Int32) ∨ a4 = b4) ∧ (Int32.ofNat nA < (6 : Int32) ∨ a5 = b5)) := by
  have okA := own_okl oa0 oa1 oa2 oa3 oa4 oa5
  have okB := own_okl ob0 ob1 ob2 ob3 ob4 ob5
  rw [own_chk_eq (fun c hc => okA c (List.mem_of_mem_take hc)) (fun c hc => okB c (List.mem_of_mem_take hc)), own_pads (fun c hc => okA c (List.mem_of_mem_take hc)) (fun c hc => okB c (List.mem_of_mem_take hc)) (by rw [own_tl a6n]; exact a6n) (by rw [own_tl b6n]; exact b6n), own_tl a6n, own_tl b6n]
  rw [own_nar oa0, own_nar oa1, own_nar oa2, own_nar oa3, own_nar oa4, own_nar oa5, own_nar ob0, own_nar ob1, own_nar ob2, own_nar ob3, own_nar ob4, own_nar ob5]
  have l2 : (Int32.ofNat nA < (2 : Int32)) ↔ nA < 2 := own_lt32 (j := 2) (by omega) (by decide)
  have l3 : (Int32.ofNat nA < (3 : Int32)) ↔ nA < 3 := own_lt32 (j := 3) (by omega) (by decide)
  have l4 : (Int32.ofNat nA < (4 : Int32)) ↔ nA < 4 := own_lt32 (j := 4) (by omega) (by decide)
  have l5 : (Int32.ofNat nA < (5 : Int32)) ↔ nA < 5 := own_lt32 (j := 5) (by omega) (by decide)
  have l6 : (Int32.ofNat nA < (6 : Int32)) ↔ nA < 6 := own_lt32 (j := 6) (by omega) (by decide)
  rw [l2, l3, l4, l5, l6, own_eq32 (by omega) (by omega)]
  constructor
  · rintro ⟨rfl, h⟩
    have g : ∀ i, i < nA → ([a0, a1, a2, a3, a4, a5] : List Int32).getD i 0 = ([b0, b1, b2, b3, b4, b5] : List Int32).getD i 0 := fun i hi => by
      have := h i hi
      rw [own_takeD hi, own_takeD hi] at this
      exact this
    refine ⟨rfl, g 0 (by omega), ?_, ?_, ?_, ?_, ?_⟩
    · by_cases q : nA < 2
      · exact Or.inl q
      · exact Or.inr (g 1 (by omega))
    · by_cases q : nA < 3
      · exact Or.inl q
      · exact Or.inr (g 2 (by omega))
    · by_cases q : nA < 4
      · exact Or.inl q
      · exact Or.inr (g 3 (by omega))
    · by_cases q : nA < 5
      · exact Or.inl q
      · exact Or.inr (g 4 (by omega))
    · by_cases q : nA < 6
      · exact Or.inl q
      · exact Or.inr (g 5 (by omega))
  · rintro ⟨rfl, g0, g1, g2, g3, g4, g5⟩
    refine ⟨rfl, fun i hi => ?_⟩
    rw [own_takeD hi, own_takeD hi]
    match i, (by omega : i < 6) with
    | 0, _ => exact g0
    | 1, _ => exact g1.resolve_left (by omega)
    | 2, _ => exact g2.resolve_left (by omega)
    | 3, _ => exact g3.resolve_left (by omega)
    | 4, _ => exact g4.resolve_left (by omega)
    | 5, _ => exact g5.resolve_left (by omega)
theorem own_fin1 {x y : Addr} {nA nB : Nat} {sA sB a0 a1 a2 a3 a4 a5 b0 b1 b2 b3 b4 b5 : Int32} (a1n : 1 ≤ nA) (a6n : nA ≤ 6) (b1n : 1 ≤ nB) (b6n : nB ≤ 6) (oa0 : own_okc a0) (oa1 : own_okc a1) (oa2 : own_okc a2) (oa3 : own_okc a3) (oa4 : own_okc a4) (oa5 : own_okc a5) (ob0 : own_okc b0) (ob1 : own_okc b1) (ob2 : own_okc b2) (ob3 : own_okc b3) (ob4 : own_okc b4) (ob5 : own_okc b5) :
    own_eq x y (own_chk (List.take nA ([nar .char a0, nar .char a1, nar .char a2, nar .char a3, nar .char a4, nar .char a5] : List Int32)) 6 0 (0 : Int64)) sA (own_chk (List.take nB ([nar .char b0, nar .char b1, nar .char b2, nar .char b3, nar .char b4, nar .char b5] : List Int32)) 6 0 (0 : Int64)) sB = own_same (Int32.ofNat nA) (Int32.ofNat nB) sA sB a0 a1 a2 a3 a4 a5 b0 b1 b2 b3 b4 b5 := by
  have f := own_fin0 a1n a6n b1n b6n oa0 oa1 oa2 oa3 oa4 oa5 ob0 ob1 ob2 ob3 ob4 ob5
  rw [own_eq, own_same]
  by_cases h : own_chk (List.take nA ([nar .char a0, nar .char a1, nar .char a2, nar .char a3, nar .char a4, nar .char a5] : List Int32)) 6 0 (0 : Int64) = own_chk (List.take nB ([nar .char b0, nar .char b1, nar .char b2, nar .char b3, nar .char b4, nar .char b5] : List Int32)) 6 0 (0 : Int64)
  · rw [if_pos h]
    have g := f.mp h
    by_cases q : sA = sB
    · rw [if_pos q, if_pos ⟨g.1, q, g.2⟩]
    · rw [if_neg q, if_neg (fun z => q z.2.1)]
  · rw [if_neg h, if_neg (fun z => h (f.mpr ⟨z.1, z.2.2⟩))]
theorem own_fin2 {x y : Addr} {nA nB : Nat} {sA sB a0 a1 a2 a3 a4 a5 b0 b1 b2 b3 b4 b5 : Int32} (a1n : 1 ≤ nA) (a6n : nA ≤ 6) (b1n : 1 ≤ nB) (b6n : nB ≤ 6) (oa0 : own_okc a0) (oa1 : own_okc a1) (oa2 : own_okc a2) (oa3 : own_okc a3) (oa4 : own_okc a4) (oa5 : own_okc a5) (ob0 : own_okc b0) (ob1 : own_okc b1) (ob2 : own_okc b2) (ob3 : own_okc b3) (ob4 : own_okc b4) (ob5 : own_okc b5) :
    own_eq x y (own_chk (List.take nB ([nar .char b0, nar .char b1, nar .char b2, nar .char b3, nar .char b4, nar .char b5] : List Int32)) 6 0 (0 : Int64)) sB (own_chk (List.take nA ([nar .char a0, nar .char a1, nar .char a2, nar .char a3, nar .char a4, nar .char a5] : List Int32)) 6 0 (0 : Int64)) sA = own_same (Int32.ofNat nA) (Int32.ofNat nB) sA sB a0 a1 a2 a3 a4 a5 b0 b1 b2 b3 b4 b5 := by
  rw [← own_fin1 (x := x) (y := y) a1n a6n b1n b6n oa0 oa1 oa2 oa3 oa4 oa5 ob0 ob1 ob2 ob3 ob4 ob5, own_eq, own_eq]
  by_cases h : own_chk (List.take nB ([nar .char b0, nar .char b1, nar .char b2, nar .char b3, nar .char b4, nar .char b5] : List Int32)) 6 0 (0 : Int64) = own_chk (List.take nA ([nar .char a0, nar .char a1, nar .char a2, nar .char a3, nar .char a4, nar .char a5] : List Int32)) 6 0 (0 : Int64)
  · rw [if_pos h, if_pos h.symm]
    by_cases q : sB = sA
    · rw [if_pos q, if_pos q.symm]
    · rw [if_neg q, if_neg (fun z => q z.symm)]
  · rw [if_neg h, if_neg (fun z => h z.symm)]
theorem own_eq_self (x y : Addr) (q : Int64) (s : Int32) : own_eq x y q s q s = 1 := by rw [own_eq, if_pos rfl, if_pos rfl]
theorem pd_6 : parseMethodDescriptor "(JI)C" = some ⟨[.long, .int], some .char⟩ := by decide +kernel
theorem pd_7 : parseMethodDescriptor "(CCCCCCI)Ljava/lang/String;" = some ⟨[.char, .char, .char, .char, .char, .char, .int], some (.object "java/lang/String")⟩ := by decide +kernel
theorem pd_8 : parseMethodDescriptor "(Ljava/lang/String;I)V" = some ⟨[(.object "java/lang/String"), .int], none⟩ := by decide +kernel
theorem pd_9 : parseMethodDescriptor "(Ljava/lang/Object;)Z" = some ⟨[(.object "java/lang/Object")], some .boolean⟩ := by decide +kernel
theorem ef_rm0 (m : MethodId) (x0 : Int64) (x1 : Int64) (x2 : Int32) (x3 : Int32) (x4 : Int32) : entryFrame m #[(.long x0), (.long x1), (.int x2), (.int x3), (.int x4)] maxLocals = mkF m 0 #[.val (.long x0), .second, .val (.long x1), .second, .val (.int x2), .val (.int x3), .val (.int x4), .unset, .unset, .unset, .unset, .unset, .unset, .unset, .unset, .unset, .unset, .unset, .unset, .unset, .unset, .unset, .unset, .unset, .unset, .unset, .unset, .unset, .unset, .unset] [] := by first | (simp [entryFrame, mkF, argsToLocals, Value.category, maxLocals]; done) | rfl
def Q0 (Z : State) (vs : Int64) (vt_ : Int64) (vlens : Int32) (vssid : Int32) (vpick : Int32) (vz : Int32) (fm : Value) (h0 : Heap) (n0 : Nat) (v : Option Value) (h : Heap) (L : List Loc) : Prop := v = some (.int (1 : Int32)) ∧ Fr n0 L
set_option maxRecDepth 65536 in
set_option maxHeartbeats 40000000 in
theorem rm0 (l : Launch) (Z : State) (a0 : Array Value) (hw : ∀ d ∈ tables_1, d.before a0 Z = true) (ws : List Jvm.Cond) (vs : Int64) (vt_ : Int64) (vlens : Int32) (vssid : Int32) (vpick : Int32) (vz : Int32) (fm : Value) (h0 : Heap) (n0 : Nat) (Z0 : n0 ≤ h0.size) (S_cs : Sta Z h0 "java/lang/String" "COMPACT_STRINGS" "Z" (.int vz)) (S_fm : Sta Z h0 "jdk/internal/util/Preconditions" "SIOOBE_FORMATTER" "Ljava/util/function/BiFunction;" fm) (hcs : ¬ vz = 0) (rfm : fm.isRef = true) :
    MetFree l x (head1 (Jvm.Cond.code x code maxLocals ret :: ws) room_1) (fun a U => a = #[(.long vs), (.long vt_), (.int vlens), (.int vssid), (.int vpick)] ∧ Z.Warmed39 U.vm ∧ U.heap = h0) (fun _ _ _ _ _ => True) (fun _ U o U' => ∃ v L, o = .returned v ∧ Q0 Z vs vt_ vlens vssid vpick vz fm h0 n0 v U'.heap L ∧ FrameEnd U o U' L room_1.cells room_1.slots) := by
  refine MetFree.of_bodySF (plainFor_of_name pn_26) hisR ?_
  intro p e s m args below meth c s₁ Bd hml0 hP hK
  obtain ⟨rfl, hZ, hh⟩ := hP
  have hx := Bd.exec
  have hby := Bd.bytes
  have hml : c.maxLocals = 30 := hml0
  have hown : s.vm.findClass "com/example/packet_radio_link/packetradiolink/frame/AddressEqualsPinLaw" = some m.cls := findClass_of_methodNamed Bd.named
  have hnm := (name_of_methodNamed Bd.named Bd.method).1
  have X0 : Stand p l e room_1 s m #[(.long vs), (.long vt_), (.int vlens), (.int vssid), (.int vpick)] below meth c s₁ [] 0 0 := Stand.of_body Bd
  have e0 : s₁.heap = h0 := by rw [← hh, Bd.state]; rfl
  have N0 := Fr.nil n0
  have pre0 : ∀ t, Steps p.tables e below (s₁.setTop (mkF m 0 #[.val (.long vs), .second, .val (.long vt_), .second, .val (.int vlens), .val (.int vssid), .val (.int vpick), .unset, .unset, .unset, .unset, .unset, .unset, .unset, .unset, .unset, .unset, .unset, .unset, .unset, .unset, .unset, .unset, .unset, .unset, .unset, .unset, .unset, .unset, .unset] [])) t → Steps p.tables e below (s₁.setTop (entryFrame m #[(.long vs), (.long vt_), (.int vlens), (.int vssid), (.int vpick)] maxLocals)) t := fun t k => castTop (ef_rm0 m vs vt_ vlens vssid vpick) k
  obtain ⟨_, _, ⟨T1, L1, k1, n1⟩, -, X1, ⟨Lc1, hQ1, l1, y1, z1⟩, st1⟩ := Jvm.LawKit.callS X0 hx (y := (⟨"com/example/packet_radio_link/packetradiolink/frame/AddressEqualsPinLaw", "ch", "(JI)C"⟩ : MethodName)) hown (mvT hZ (hw _ (List.mem_of_getElem? (i := 0) rfl))) (mvT hZ (hw _ (List.mem_of_getElem? (i := 1) rfl))) (mvT hZ (hw _ (List.mem_of_getElem? (i := 2) rfl))) (mvT hZ (hw _ (List.mem_of_getElem? (i := 3) rfl))) (by decide) (backOf (W := 0) (rm1 l Z a0 hw [] vs (0 : Int32)  h0 n0 Z0 ) hZ (hw _ (List.mem_of_getElem? (i := 3) rfl)) (hw _ (List.mem_of_getElem? (i := 2) rfl)) (by decide) (by decide)) (g := (mkF m 2 #[.val (.long vs), .second, .val (.long vt_), .second, .val (.int vlens), .val (.int vssid), .val (.int vpick), .unset, .unset, .unset, .unset, .unset, .unset, .unset, .unset, .unset, .unset, .unset, .unset, .unset, .unset, .unset, .unset, .unset, .unset, .unset, .unset, .unset, .unset, .unset] [(.int (0 : Int32)), (.long vs)])) rfl (by rw [hml]; rfl) (argsL := [(.long vs), (.int (0 : Int32))]) (rest := []) (lenOf pd_6 rfl) rfl (by show 2 * 0 + _ ≤ _; exact Nat.le_of_eq rfl) (hb hby at_2) (fun _ _ => ⟨rfl, e0, (by decide : 0 + 0 ≤ _), (by decide : 0 + 0 ≤ _)⟩)
  dsimp only [Pt.U, Pt.locs, Pt.cells, Pt.slots] at X1 l1 y1 z1 st1 hQ1
  subst l1 y1 z1
  obtain ⟨rfl, N1q, e1q⟩ := hQ1
  have N1 := Fr.app N0 N1q
  obtain ⟨_, _, ⟨T2, L2, k2, n2⟩, -, X2, ⟨Lc2, hQ2, l2, y2, z2⟩, st2⟩ := Jvm.LawKit.callS X1 hx (y := (⟨"com/example/packet_radio_link/packetradiolink/frame/AddressEqualsPinLaw", "ch", "(JI)C"⟩ : MethodName)) hown (mvT hZ (hw _ (List.mem_of_getElem? (i := 0) rfl))) (mvT hZ (hw _ (List.mem_of_getElem? (i := 1) rfl))) (mvT hZ (hw _ (List.mem_of_getElem? (i := 2) rfl))) (mvT hZ (hw _ (List.mem_of_getElem? (i := 3) rfl))) (by decide) (backOf (W := 0) (rm1 l Z a0 hw [] vs (1 : Int32)  h0 n0 Z0 ) hZ (hw _ (List.mem_of_getElem? (i := 3) rfl)) (hw _ (List.mem_of_getElem? (i := 2) rfl)) (by decide) (by decide)) (g := (mkF m 9 #[.val (.long vs), .second, .val (.long vt_), .second, .val (.int vlens), .val (.int vssid), .val (.int vpick), .val (.int (own_ch vs (0 : Int32))), .unset, .unset, .unset, .unset, .unset, .unset, .unset, .unset, .unset, .unset, .unset, .unset, .unset, .unset, .unset, .unset, .unset, .unset, .unset, .unset, .unset, .unset] [(.int (1 : Int32)), (.long vs)])) rfl (by rw [hml]; rfl) (argsL := [(.long vs), (.int (1 : Int32))]) (rest := []) (lenOf pd_6 rfl) rfl (by show 2 * 0 + _ ≤ _; exact Nat.le_of_eq rfl) (hb hby at_9) (fun _ _ => ⟨rfl, e1q, (by decide : 0 + 0 ≤ _), (by decide : 0 + 0 ≤ _)⟩)
  dsimp only [Pt.U, Pt.locs, Pt.cells, Pt.slots] at X2 l2 y2 z2 st2 hQ2
  subst l2 y2 z2
  obtain ⟨rfl, N2q, e2q⟩ := hQ2
  have N2 := Fr.app N1 N2q
  obtain ⟨_, _, ⟨T3, L3, k3, n3⟩, -, X3, ⟨Lc3, hQ3, l3, y3, z3⟩, st3⟩ := Jvm.LawKit.callS X2 hx (y := (⟨"com/example/packet_radio_link/packetradiolink/frame/AddressEqualsPinLaw", "ch", "(JI)C"⟩ : MethodName)) hown (mvT hZ (hw _ (List.mem_of_getElem? (i := 0) rfl))) (mvT hZ (hw _ (List.mem_of_getElem? (i := 1) rfl))) (mvT hZ (hw _ (List.mem_of_getElem? (i := 2) rfl))) (mvT hZ (hw _ (List.mem_of_getElem? (i := 3) rfl))) (by decide) (backOf (W := 0) (rm1 l Z a0 hw [] vs (2 : Int32)  h0 n0 Z0 ) hZ (hw _ (List.mem_of_getElem? (i := 3) rfl)) (hw _ (List.mem_of_getElem? (i := 2) rfl)) (by decide) (by decide)) (g := (mkF m 16 #[.val (.long vs), .second, .val (.long vt_), .second, .val (.int vlens), .val (.int vssid), .val (.int vpick), .val (.int (own_ch vs (0 : Int32))), .val (.int (own_ch vs (1 : Int32))), .unset, .unset, .unset, .unset, .unset, .unset, .unset, .unset, .unset, .unset, .unset, .unset, .unset, .unset, .unset, .unset, .unset, .unset, .unset, .unset, .unset] [(.int (2 : Int32)), (.long vs)])) rfl (by rw [hml]; rfl) (argsL := [(.long vs), (.int (2 : Int32))]) (rest := []) (lenOf pd_6 rfl) rfl (by show 2 * 0 + _ ≤ _; exact Nat.le_of_eq rfl) (hb hby at_16) (fun _ _ => ⟨rfl, e2q, (by decide : 0 + 0 ≤ _), (by decide : 0 + 0 ≤ _)⟩)
  dsimp only [Pt.U, Pt.locs, Pt.cells, Pt.slots] at X3 l3 y3 z3 st3 hQ3
  subst l3 y3 z3
  obtain ⟨rfl, N3q, e3q⟩ := hQ3
  have N3 := Fr.app N2 N3q
  obtain ⟨_, _, ⟨T4, L4, k4, n4⟩, -, X4, ⟨Lc4, hQ4, l4, y4, z4⟩, st4⟩ := Jvm.LawKit.callS X3 hx (y := (⟨"com/example/packet_radio_link/packetradiolink/frame/AddressEqualsPinLaw", "ch", "(JI)C"⟩ : MethodName)) hown (mvT hZ (hw _ (List.mem_of_getElem? (i := 0) rfl))) (mvT hZ (hw _ (List.mem_of_getElem? (i := 1) rfl))) (mvT hZ (hw _ (List.mem_of_getElem? (i := 2) rfl))) (mvT hZ (hw _ (List.mem_of_getElem? (i := 3) rfl))) (by decide) (backOf (W := 0) (rm1 l Z a0 hw [] vs (3 : Int32)  h0 n0 Z0 ) hZ (hw _ (List.mem_of_getElem? (i := 3) rfl)) (hw _ (List.mem_of_getElem? (i := 2) rfl)) (by decide) (by decide)) (g := (mkF m 23 #[.val (.long vs), .second, .val (.long vt_), .second, .val (.int vlens), .val (.int vssid), .val (.int vpick), .val (.int (own_ch vs (0 : Int32))), .val (.int (own_ch vs (1 : Int32))), .val (.int (own_ch vs (2 : Int32))), .unset, .unset, .unset, .unset, .unset, .unset, .unset, .unset, .unset, .unset, .unset, .unset, .unset, .unset, .unset, .unset, .unset, .unset, .unset, .unset] [(.int (3 : Int32)), (.long vs)])) rfl (by rw [hml]; rfl) (argsL := [(.long vs), (.int (3 : Int32))]) (rest := []) (lenOf pd_6 rfl) rfl (by show 2 * 0 + _ ≤ _; exact Nat.le_of_eq rfl) (hb hby at_23) (fun _ _ => ⟨rfl, e3q, (by decide : 0 + 0 ≤ _), (by decide : 0 + 0 ≤ _)⟩)
  dsimp only [Pt.U, Pt.locs, Pt.cells, Pt.slots] at X4 l4 y4 z4 st4 hQ4
  subst l4 y4 z4
  obtain ⟨rfl, N4q, e4q⟩ := hQ4
  have N4 := Fr.app N3 N4q
  obtain ⟨_, _, ⟨T5, L5, k5, n5⟩, -, X5, ⟨Lc5, hQ5, l5, y5, z5⟩, st5⟩ := Jvm.LawKit.callS X4 hx (y := (⟨"com/example/packet_radio_link/packetradiolink/frame/AddressEqualsPinLaw", "ch", "(JI)C"⟩ : MethodName)) hown (mvT hZ (hw _ (List.mem_of_getElem? (i := 0) rfl))) (mvT hZ (hw _ (List.mem_of_getElem? (i := 1) rfl))) (mvT hZ (hw _ (List.mem_of_getElem? (i := 2) rfl))) (mvT hZ (hw _ (List.mem_of_getElem? (i := 3) rfl))) (by decide) (backOf (W := 0) (rm1 l Z a0 hw [] vs (4 : Int32)  h0 n0 Z0 ) hZ (hw _ (List.mem_of_getElem? (i := 3) rfl)) (hw _ (List.mem_of_getElem? (i := 2) rfl)) (by decide) (by decide)) (g := (mkF m 30 #[.val (.long vs), .second, .val (.long vt_), .second, .val (.int vlens), .val (.int vssid), .val (.int vpick), .val (.int (own_ch vs (0 : Int32))), .val (.int (own_ch vs (1 : Int32))), .val (.int (own_ch vs (2 : Int32))), .val (.int (own_ch vs (3 : Int32))), .unset, .unset, .unset, .unset, .unset, .unset, .unset, .unset, .unset, .unset, .unset, .unset, .unset, .unset, .unset, .unset, .unset, .unset, .unset] [(.int (4 : Int32)), (.long vs)])) rfl (by rw [hml]; rfl) (argsL := [(.long vs), (.int (4 : Int32))]) (rest := []) (lenOf pd_6 rfl) rfl (by show 2 * 0 + _ ≤ _; exact Nat.le_of_eq rfl) (hb hby at_30) (fun _ _ => ⟨rfl, e4q, (by decide : 0 + 0 ≤ _), (by decide : 0 + 0 ≤ _)⟩)
  dsimp only [Pt.U, Pt.locs, Pt.cells, Pt.slots] at X5 l5 y5 z5 st5 hQ5
  subst l5 y5 z5
  obtain ⟨rfl, N5q, e5q⟩ := hQ5
  have N5 := Fr.app N4 N5q
  obtain ⟨_, _, ⟨T6, L6, k6, n6⟩, -, X6, ⟨Lc6, hQ6, l6, y6, z6⟩, st6⟩ := Jvm.LawKit.callS X5 hx (y := (⟨"com/example/packet_radio_link/packetradiolink/frame/AddressEqualsPinLaw", "ch", "(JI)C"⟩ : MethodName)) hown (mvT hZ (hw _ (List.mem_of_getElem? (i := 0) rfl))) (mvT hZ (hw _ (List.mem_of_getElem? (i := 1) rfl))) (mvT hZ (hw _ (List.mem_of_getElem? (i := 2) rfl))) (mvT hZ (hw _ (List.mem_of_getElem? (i := 3) rfl))) (by decide) (backOf (W := 0) (rm1 l Z a0 hw [] vs (5 : Int32)  h0 n0 Z0 ) hZ (hw _ (List.mem_of_getElem? (i := 3) rfl)) (hw _ (List.mem_of_getElem? (i := 2) rfl)) (by decide) (by decide)) (g := (mkF m 37 #[.val (.long vs), .second, .val (.long vt_), .second, .val (.int vlens), .val (.int vssid), .val (.int vpick), .val (.int (own_ch vs (0 : Int32))), .val (.int (own_ch vs (1 : Int32))), .val (.int (own_ch vs (2 : Int32))), .val (.int (own_ch vs (3 : Int32))), .val (.int (own_ch vs (4 : Int32))), .unset, .unset, .unset, .unset, .unset, .unset, .unset, .unset, .unset, .unset, .unset, .unset, .unset, .unset, .unset, .unset, .unset, .unset] [(.int (5 : Int32)), (.long vs)])) rfl (by rw [hml]; rfl) (argsL := [(.long vs), (.int (5 : Int32))]) (rest := []) (lenOf pd_6 rfl) rfl (by show 2 * 0 + _ ≤ _; exact Nat.le_of_eq rfl) (hb hby at_37) (fun _ _ => ⟨rfl, e5q, (by decide : 0 + 0 ≤ _), (by decide : 0 + 0 ≤ _)⟩)
  dsimp only [Pt.U, Pt.locs, Pt.cells, Pt.slots] at X6 l6 y6 z6 st6 hQ6
  subst l6 y6 z6
  obtain ⟨rfl, N6q, e6q⟩ := hQ6
  have N6 := Fr.app N5 N6q
  have pre7 : ∀ t, Steps p.tables e below (T6.setTop (mkF m 42 #[.val (.long vs), .second, .val (.long vt_), .second, .val (.int vlens), .val (.int vssid), .val (.int vpick), .val (.int (own_ch vs (0 : Int32))), .val (.int (own_ch vs (1 : Int32))), .val (.int (own_ch vs (2 : Int32))), .val (.int (own_ch vs (3 : Int32))), .val (.int (own_ch vs (4 : Int32))), .val (.int (own_ch vs (5 : Int32))), .unset, .unset, .unset, .unset, .unset, .unset, .unset, .unset, .unset, .unset, .unset, .unset, .unset, .unset, .unset, .unset, .unset] [])) t → Steps p.tables e below (s₁.setTop (entryFrame m #[(.long vs), (.long vt_), (.int vlens), (.int vssid), (.int vpick)] maxLocals)) t := by
    intro t kt
    refine pre0 t ?_
    show Steps p.tables e below (s₁.setTop (mkF m 0 #[.val (.long vs), .second, .val (.long vt_), .second, .val (.int vlens), .val (.int vssid), .val (.int vpick), .unset, .unset, .unset, .unset, .unset, .unset, .unset, .unset, .unset, .unset, .unset, .unset, .unset, .unset, .unset, .unset, .unset, .unset, .unset, .unset, .unset, .unset, .unset] [])) _
    refine XS.lloadN X0.here hx rfl (hb hby at_0) rfl ?_
    show Steps p.tables e below (s₁.setTop (mkF m 1 #[.val (.long vs), .second, .val (.long vt_), .second, .val (.int vlens), .val (.int vssid), .val (.int vpick), .unset, .unset, .unset, .unset, .unset, .unset, .unset, .unset, .unset, .unset, .unset, .unset, .unset, .unset, .unset, .unset, .unset, .unset, .unset, .unset, .unset, .unset, .unset] [(.long vs)])) _
    refine XS.iconst X0.here hx rfl (hb hby at_1) ?_
    show Steps p.tables e below (s₁.setTop (mkF m 2 #[.val (.long vs), .second, .val (.long vt_), .second, .val (.int vlens), .val (.int vssid), .val (.int vpick), .unset, .unset, .unset, .unset, .unset, .unset, .unset, .unset, .unset, .unset, .unset, .unset, .unset, .unset, .unset, .unset, .unset, .unset, .unset, .unset, .unset, .unset, .unset] [(.int (0 : Int32)), (.long vs)])) _
    refine st1 _ ?_
    show Steps p.tables e below (T1.setTop (mkF m 5 #[.val (.long vs), .second, .val (.long vt_), .second, .val (.int vlens), .val (.int vssid), .val (.int vpick), .unset, .unset, .unset, .unset, .unset, .unset, .unset, .unset, .unset, .unset, .unset, .unset, .unset, .unset, .unset, .unset, .unset, .unset, .unset, .unset, .unset, .unset, .unset] [(.int (own_ch vs (0 : Int32)))])) _
    refine XS.istore X1.here hx rfl (hb hby at_5) rfl (l' := #[.val (.long vs), .second, .val (.long vt_), .second, .val (.int vlens), .val (.int vssid), .val (.int vpick), .val (.int (own_ch vs (0 : Int32))), .unset, .unset, .unset, .unset, .unset, .unset, .unset, .unset, .unset, .unset, .unset, .unset, .unset, .unset, .unset, .unset, .unset, .unset, .unset, .unset, .unset, .unset]) rfl ?_
    show Steps p.tables e below (T1.setTop (mkF m 7 #[.val (.long vs), .second, .val (.long vt_), .second, .val (.int vlens), .val (.int vssid), .val (.int vpick), .val (.int (own_ch vs (0 : Int32))), .unset, .unset, .unset, .unset, .unset, .unset, .unset, .unset, .unset, .unset, .unset, .unset, .unset, .unset, .unset, .unset, .unset, .unset, .unset, .unset, .unset, .unset] [])) _
    refine XS.lloadN X1.here hx rfl (hb hby at_7) rfl ?_
    show Steps p.tables e below (T1.setTop (mkF m 8 #[.val (.long vs), .second, .val (.long vt_), .second, .val (.int vlens), .val (.int vssid), .val (.int vpick), .val (.int (own_ch vs (0 : Int32))), .unset, .unset, .unset, .unset, .unset, .unset, .unset, .unset, .unset, .unset, .unset, .unset, .unset, .unset, .unset, .unset, .unset, .unset, .unset, .unset, .unset, .unset] [(.long vs)])) _
    refine XS.iconst X1.here hx rfl (hb hby at_8) ?_
    show Steps p.tables e below (T1.setTop (mkF m 9 #[.val (.long vs), .second, .val (.long vt_), .second, .val (.int vlens), .val (.int vssid), .val (.int vpick), .val (.int (own_ch vs (0 : Int32))), .unset, .unset, .unset, .unset, .unset, .unset, .unset, .unset, .unset, .unset, .unset, .unset, .unset, .unset, .unset, .unset, .unset, .unset, .unset, .unset, .unset, .unset] [(.int (1 : Int32)), (.long vs)])) _
    refine st2 _ ?_
    show Steps p.tables e below (T2.setTop (mkF m 12 #[.val (.long vs), .second, .val (.long vt_), .second, .val (.int vlens), .val (.int vssid), .val (.int vpick), .val (.int (own_ch vs (0 : Int32))), .unset, .unset, .unset, .unset, .unset, .unset, .unset, .unset, .unset, .unset, .unset, .unset, .unset, .unset, .unset, .unset, .unset, .unset, .unset, .unset, .unset, .unset] [(.int (own_ch vs (1 : Int32)))])) _
    refine XS.istore X2.here hx rfl (hb hby at_12) rfl (l' := #[.val (.long vs), .second, .val (.long vt_), .second, .val (.int vlens), .val (.int vssid), .val (.int vpick), .val (.int (own_ch vs (0 : Int32))), .val (.int (own_ch vs (1 : Int32))), .unset, .unset, .unset, .unset, .unset, .unset, .unset, .unset, .unset, .unset, .unset, .unset, .unset, .unset, .unset, .unset, .unset, .unset, .unset, .unset, .unset]) rfl ?_
    show Steps p.tables e below (T2.setTop (mkF m 14 #[.val (.long vs), .second, .val (.long vt_), .second, .val (.int vlens), .val (.int vssid), .val (.int vpick), .val (.int (own_ch vs (0 : Int32))), .val (.int (own_ch vs (1 : Int32))), .unset, .unset, .unset, .unset, .unset, .unset, .unset, .unset, .unset, .unset, .unset, .unset, .unset, .unset, .unset, .unset, .unset, .unset, .unset, .unset, .unset] [])) _
    refine XS.lloadN X2.here hx rfl (hb hby at_14) rfl ?_
    show Steps p.tables e below (T2.setTop (mkF m 15 #[.val (.long vs), .second, .val (.long vt_), .second, .val (.int vlens), .val (.int vssid), .val (.int vpick), .val (.int (own_ch vs (0 : Int32))), .val (.int (own_ch vs (1 : Int32))), .unset, .unset, .unset, .unset, .unset, .unset, .unset, .unset, .unset, .unset, .unset, .unset, .unset, .unset, .unset, .unset, .unset, .unset, .unset, .unset, .unset] [(.long vs)])) _
    refine XS.iconst X2.here hx rfl (hb hby at_15) ?_
    show Steps p.tables e below (T2.setTop (mkF m 16 #[.val (.long vs), .second, .val (.long vt_), .second, .val (.int vlens), .val (.int vssid), .val (.int vpick), .val (.int (own_ch vs (0 : Int32))), .val (.int (own_ch vs (1 : Int32))), .unset, .unset, .unset, .unset, .unset, .unset, .unset, .unset, .unset, .unset, .unset, .unset, .unset, .unset, .unset, .unset, .unset, .unset, .unset, .unset, .unset] [(.int (2 : Int32)), (.long vs)])) _
    refine st3 _ ?_
    show Steps p.tables e below (T3.setTop (mkF m 19 #[.val (.long vs), .second, .val (.long vt_), .second, .val (.int vlens), .val (.int vssid), .val (.int vpick), .val (.int (own_ch vs (0 : Int32))), .val (.int (own_ch vs (1 : Int32))), .unset, .unset, .unset, .unset, .unset, .unset, .unset, .unset, .unset, .unset, .unset, .unset, .unset, .unset, .unset, .unset, .unset, .unset, .unset, .unset, .unset] [(.int (own_ch vs (2 : Int32)))])) _
    refine XS.istore X3.here hx rfl (hb hby at_19) rfl (l' := #[.val (.long vs), .second, .val (.long vt_), .second, .val (.int vlens), .val (.int vssid), .val (.int vpick), .val (.int (own_ch vs (0 : Int32))), .val (.int (own_ch vs (1 : Int32))), .val (.int (own_ch vs (2 : Int32))), .unset, .unset, .unset, .unset, .unset, .unset, .unset, .unset, .unset, .unset, .unset, .unset, .unset, .unset, .unset, .unset, .unset, .unset, .unset, .unset]) rfl ?_
    show Steps p.tables e below (T3.setTop (mkF m 21 #[.val (.long vs), .second, .val (.long vt_), .second, .val (.int vlens), .val (.int vssid), .val (.int vpick), .val (.int (own_ch vs (0 : Int32))), .val (.int (own_ch vs (1 : Int32))), .val (.int (own_ch vs (2 : Int32))), .unset, .unset, .unset, .unset, .unset, .unset, .unset, .unset, .unset, .unset, .unset, .unset, .unset, .unset, .unset, .unset, .unset, .unset, .unset, .unset] [])) _
    refine XS.lloadN X3.here hx rfl (hb hby at_21) rfl ?_
    show Steps p.tables e below (T3.setTop (mkF m 22 #[.val (.long vs), .second, .val (.long vt_), .second, .val (.int vlens), .val (.int vssid), .val (.int vpick), .val (.int (own_ch vs (0 : Int32))), .val (.int (own_ch vs (1 : Int32))), .val (.int (own_ch vs (2 : Int32))), .unset, .unset, .unset, .unset, .unset, .unset, .unset, .unset, .unset, .unset, .unset, .unset, .unset, .unset, .unset, .unset, .unset, .unset, .unset, .unset] [(.long vs)])) _
    refine XS.iconst X3.here hx rfl (hb hby at_22) ?_
    show Steps p.tables e below (T3.setTop (mkF m 23 #[.val (.long vs), .second, .val (.long vt_), .second, .val (.int vlens), .val (.int vssid), .val (.int vpick), .val (.int (own_ch vs (0 : Int32))), .val (.int (own_ch vs (1 : Int32))), .val (.int (own_ch vs (2 : Int32))), .unset, .unset, .unset, .unset, .unset, .unset, .unset, .unset, .unset, .unset, .unset, .unset, .unset, .unset, .unset, .unset, .unset, .unset, .unset, .unset] [(.int (3 : Int32)), (.long vs)])) _
    refine st4 _ ?_
    show Steps p.tables e below (T4.setTop (mkF m 26 #[.val (.long vs), .second, .val (.long vt_), .second, .val (.int vlens), .val (.int vssid), .val (.int vpick), .val (.int (own_ch vs (0 : Int32))), .val (.int (own_ch vs (1 : Int32))), .val (.int (own_ch vs (2 : Int32))), .unset, .unset, .unset, .unset, .unset, .unset, .unset, .unset, .unset, .unset, .unset, .unset, .unset, .unset, .unset, .unset, .unset, .unset, .unset, .unset] [(.int (own_ch vs (3 : Int32)))])) _
    refine XS.istore X4.here hx rfl (hb hby at_26) rfl (l' := #[.val (.long vs), .second, .val (.long vt_), .second, .val (.int vlens), .val (.int vssid), .val (.int vpick), .val (.int (own_ch vs (0 : Int32))), .val (.int (own_ch vs (1 : Int32))), .val (.int (own_ch vs (2 : Int32))), .val (.int (own_ch vs (3 : Int32))), .unset, .unset, .unset, .unset, .unset, .unset, .unset, .unset, .unset, .unset, .unset, .unset, .unset, .unset, .unset, .unset, .unset, .unset, .unset]) rfl ?_
    show Steps p.tables e below (T4.setTop (mkF m 28 #[.val (.long vs), .second, .val (.long vt_), .second, .val (.int vlens), .val (.int vssid), .val (.int vpick), .val (.int (own_ch vs (0 : Int32))), .val (.int (own_ch vs (1 : Int32))), .val (.int (own_ch vs (2 : Int32))), .val (.int (own_ch vs (3 : Int32))), .unset, .unset, .unset, .unset, .unset, .unset, .unset, .unset, .unset, .unset, .unset, .unset, .unset, .unset, .unset, .unset, .unset, .unset, .unset] [])) _
    refine XS.lloadN X4.here hx rfl (hb hby at_28) rfl ?_
    show Steps p.tables e below (T4.setTop (mkF m 29 #[.val (.long vs), .second, .val (.long vt_), .second, .val (.int vlens), .val (.int vssid), .val (.int vpick), .val (.int (own_ch vs (0 : Int32))), .val (.int (own_ch vs (1 : Int32))), .val (.int (own_ch vs (2 : Int32))), .val (.int (own_ch vs (3 : Int32))), .unset, .unset, .unset, .unset, .unset, .unset, .unset, .unset, .unset, .unset, .unset, .unset, .unset, .unset, .unset, .unset, .unset, .unset, .unset] [(.long vs)])) _
    refine XS.iconst X4.here hx rfl (hb hby at_29) ?_
    show Steps p.tables e below (T4.setTop (mkF m 30 #[.val (.long vs), .second, .val (.long vt_), .second, .val (.int vlens), .val (.int vssid), .val (.int vpick), .val (.int (own_ch vs (0 : Int32))), .val (.int (own_ch vs (1 : Int32))), .val (.int (own_ch vs (2 : Int32))), .val (.int (own_ch vs (3 : Int32))), .unset, .unset, .unset, .unset, .unset, .unset, .unset, .unset, .unset, .unset, .unset, .unset, .unset, .unset, .unset, .unset, .unset, .unset, .unset] [(.int (4 : Int32)), (.long vs)])) _
    refine st5 _ ?_
    show Steps p.tables e below (T5.setTop (mkF m 33 #[.val (.long vs), .second, .val (.long vt_), .second, .val (.int vlens), .val (.int vssid), .val (.int vpick), .val (.int (own_ch vs (0 : Int32))), .val (.int (own_ch vs (1 : Int32))), .val (.int (own_ch vs (2 : Int32))), .val (.int (own_ch vs (3 : Int32))), .unset, .unset, .unset, .unset, .unset, .unset, .unset, .unset, .unset, .unset, .unset, .unset, .unset, .unset, .unset, .unset, .unset, .unset, .unset] [(.int (own_ch vs (4 : Int32)))])) _
    refine XS.istore X5.here hx rfl (hb hby at_33) rfl (l' := #[.val (.long vs), .second, .val (.long vt_), .second, .val (.int vlens), .val (.int vssid), .val (.int vpick), .val (.int (own_ch vs (0 : Int32))), .val (.int (own_ch vs (1 : Int32))), .val (.int (own_ch vs (2 : Int32))), .val (.int (own_ch vs (3 : Int32))), .val (.int (own_ch vs (4 : Int32))), .unset, .unset, .unset, .unset, .unset, .unset, .unset, .unset, .unset, .unset, .unset, .unset, .unset, .unset, .unset, .unset, .unset, .unset]) rfl ?_
    show Steps p.tables e below (T5.setTop (mkF m 35 #[.val (.long vs), .second, .val (.long vt_), .second, .val (.int vlens), .val (.int vssid), .val (.int vpick), .val (.int (own_ch vs (0 : Int32))), .val (.int (own_ch vs (1 : Int32))), .val (.int (own_ch vs (2 : Int32))), .val (.int (own_ch vs (3 : Int32))), .val (.int (own_ch vs (4 : Int32))), .unset, .unset, .unset, .unset, .unset, .unset, .unset, .unset, .unset, .unset, .unset, .unset, .unset, .unset, .unset, .unset, .unset, .unset] [])) _
    refine XS.lloadN X5.here hx rfl (hb hby at_35) rfl ?_
    show Steps p.tables e below (T5.setTop (mkF m 36 #[.val (.long vs), .second, .val (.long vt_), .second, .val (.int vlens), .val (.int vssid), .val (.int vpick), .val (.int (own_ch vs (0 : Int32))), .val (.int (own_ch vs (1 : Int32))), .val (.int (own_ch vs (2 : Int32))), .val (.int (own_ch vs (3 : Int32))), .val (.int (own_ch vs (4 : Int32))), .unset, .unset, .unset, .unset, .unset, .unset, .unset, .unset, .unset, .unset, .unset, .unset, .unset, .unset, .unset, .unset, .unset, .unset] [(.long vs)])) _
    refine XS.iconst X5.here hx rfl (hb hby at_36) ?_
    show Steps p.tables e below (T5.setTop (mkF m 37 #[.val (.long vs), .second, .val (.long vt_), .second, .val (.int vlens), .val (.int vssid), .val (.int vpick), .val (.int (own_ch vs (0 : Int32))), .val (.int (own_ch vs (1 : Int32))), .val (.int (own_ch vs (2 : Int32))), .val (.int (own_ch vs (3 : Int32))), .val (.int (own_ch vs (4 : Int32))), .unset, .unset, .unset, .unset, .unset, .unset, .unset, .unset, .unset, .unset, .unset, .unset, .unset, .unset, .unset, .unset, .unset, .unset] [(.int (5 : Int32)), (.long vs)])) _
    refine st6 _ ?_
    show Steps p.tables e below (T6.setTop (mkF m 40 #[.val (.long vs), .second, .val (.long vt_), .second, .val (.int vlens), .val (.int vssid), .val (.int vpick), .val (.int (own_ch vs (0 : Int32))), .val (.int (own_ch vs (1 : Int32))), .val (.int (own_ch vs (2 : Int32))), .val (.int (own_ch vs (3 : Int32))), .val (.int (own_ch vs (4 : Int32))), .unset, .unset, .unset, .unset, .unset, .unset, .unset, .unset, .unset, .unset, .unset, .unset, .unset, .unset, .unset, .unset, .unset, .unset] [(.int (own_ch vs (5 : Int32)))])) _
    refine XS.istore X6.here hx rfl (hb hby at_40) rfl (l' := #[.val (.long vs), .second, .val (.long vt_), .second, .val (.int vlens), .val (.int vssid), .val (.int vpick), .val (.int (own_ch vs (0 : Int32))), .val (.int (own_ch vs (1 : Int32))), .val (.int (own_ch vs (2 : Int32))), .val (.int (own_ch vs (3 : Int32))), .val (.int (own_ch vs (4 : Int32))), .val (.int (own_ch vs (5 : Int32))), .unset, .unset, .unset, .unset, .unset, .unset, .unset, .unset, .unset, .unset, .unset, .unset, .unset, .unset, .unset, .unset, .unset]) rfl ?_
    exact kt
  obtain ⟨xa0, hxa0⟩ : ∃ z : Int32, z = (own_ch vs (0 : Int32)) := ⟨_, rfl⟩
  rw [← hxa0] at pre7
  obtain ⟨xa1, hxa1⟩ : ∃ z : Int32, z = (own_ch vs (1 : Int32)) := ⟨_, rfl⟩
  rw [← hxa1] at pre7
  obtain ⟨xa2, hxa2⟩ : ∃ z : Int32, z = (own_ch vs (2 : Int32)) := ⟨_, rfl⟩
  rw [← hxa2] at pre7
  obtain ⟨xa3, hxa3⟩ : ∃ z : Int32, z = (own_ch vs (3 : Int32)) := ⟨_, rfl⟩
  rw [← hxa3] at pre7
  obtain ⟨xa4, hxa4⟩ : ∃ z : Int32, z = (own_ch vs (4 : Int32)) := ⟨_, rfl⟩
  rw [← hxa4] at pre7
  obtain ⟨xa5, hxa5⟩ : ∃ z : Int32, z = (own_ch vs (5 : Int32)) := ⟨_, rfl⟩
  rw [← hxa5] at pre7
  have oa0 : own_okc xa0 := hxa0 ▸ own_ch_ok _ _
  have oa1 : own_okc xa1 := hxa1 ▸ own_ch_ok _ _
  have oa2 : own_okc xa2 := hxa2 ▸ own_ch_ok _ _
  have oa3 : own_okc xa3 := hxa3 ▸ own_ch_ok _ _
  have oa4 : own_okc xa4 := hxa4 ▸ own_ch_ok _ _
  have oa5 : own_okc xa5 := hxa5 ▸ own_ch_ok _ _
  have pre8 : ∀ t, Steps p.tables e below (T6.setTop (mkF m 46 #[.val (.long vs), .second, .val (.long vt_), .second, .val (.int vlens), .val (.int vssid), .val (.int vpick), .val (.int xa0), .val (.int xa1), .val (.int xa2), .val (.int xa3), .val (.int xa4), .val (.int xa5), .unset, .unset, .unset, .unset, .unset, .unset, .unset, .unset, .unset, .unset, .unset, .unset, .unset, .unset, .unset, .unset, .unset] [(.int (vpick &&& (1 : Int32)))])) t → Steps p.tables e below (s₁.setTop (entryFrame m #[(.long vs), (.long vt_), (.int vlens), (.int vssid), (.int vpick)] maxLocals)) t := by
    intro t kt
    refine pre7 t ?_
    show Steps p.tables e below (T6.setTop (mkF m 42 #[.val (.long vs), .second, .val (.long vt_), .second, .val (.int vlens), .val (.int vssid), .val (.int vpick), .val (.int xa0), .val (.int xa1), .val (.int xa2), .val (.int xa3), .val (.int xa4), .val (.int xa5), .unset, .unset, .unset, .unset, .unset, .unset, .unset, .unset, .unset, .unset, .unset, .unset, .unset, .unset, .unset, .unset, .unset] [])) _
    refine XS.iload X6.here hx rfl (hb hby at_42) rfl ?_
    show Steps p.tables e below (T6.setTop (mkF m 44 #[.val (.long vs), .second, .val (.long vt_), .second, .val (.int vlens), .val (.int vssid), .val (.int vpick), .val (.int xa0), .val (.int xa1), .val (.int xa2), .val (.int xa3), .val (.int xa4), .val (.int xa5), .unset, .unset, .unset, .unset, .unset, .unset, .unset, .unset, .unset, .unset, .unset, .unset, .unset, .unset, .unset, .unset, .unset] [(.int vpick)])) _
    refine XS.iconst X6.here hx rfl (hb hby at_44) ?_
    show Steps p.tables e below (T6.setTop (mkF m 45 #[.val (.long vs), .second, .val (.long vt_), .second, .val (.int vlens), .val (.int vssid), .val (.int vpick), .val (.int xa0), .val (.int xa1), .val (.int xa2), .val (.int xa3), .val (.int xa4), .val (.int xa5), .unset, .unset, .unset, .unset, .unset, .unset, .unset, .unset, .unset, .unset, .unset, .unset, .unset, .unset, .unset, .unset, .unset] [(.int (1 : Int32)), (.int vpick)])) _
    refine XS.iand X6.here hx rfl (hb hby at_45) rfl ?_
    exact kt
  obtain ⟨T9, L9, X9, e9, N9, pre9⟩ : ∃ (Tm : State) (Lm : List Loc), Stand p l e room_1 s m #[(.long vs), (.long vt_), (.int vlens), (.int vssid), (.int vpick)] below meth c Tm Lm 0 0 ∧ Tm.heap = h0 ∧ Fr n0 Lm ∧ ∀ t, Steps p.tables e below (Tm.setTop (mkF m 59 #[.val (.long vs), .second, .val (.long vt_), .second, .val (.int vlens), .val (.int vssid), .val (.int vpick), .val (.int xa0), .val (.int xa1), .val (.int xa2), .val (.int xa3), .val (.int xa4), .val (.int xa5), .unset, .unset, .unset, .unset, .unset, .unset, .unset, .unset, .unset, .unset, .unset, .unset, .unset, .unset, .unset, .unset, .unset] [(.int (if (vpick &&& (1 : Int32)) = (0 : Int32) then (own_ch vt_ (0 : Int32)) else xa0))])) t → Steps p.tables e below (s₁.setTop (entryFrame m #[(.long vs), (.long vt_), (.int vlens), (.int vssid), (.int vpick)] maxLocals)) t := by
    by_cases hc10 : (vpick &&& (1 : Int32)) = (0 : Int32)
    ·
      obtain ⟨_, _, ⟨T11, L11, k11, n11⟩, -, X11, ⟨Lc11, hQ11, l11, y11, z11⟩, st11⟩ := Jvm.LawKit.callS X6 hx (y := (⟨"com/example/packet_radio_link/packetradiolink/frame/AddressEqualsPinLaw", "ch", "(JI)C"⟩ : MethodName)) hown (mvT hZ (hw _ (List.mem_of_getElem? (i := 0) rfl))) (mvT hZ (hw _ (List.mem_of_getElem? (i := 1) rfl))) (mvT hZ (hw _ (List.mem_of_getElem? (i := 2) rfl))) (mvT hZ (hw _ (List.mem_of_getElem? (i := 3) rfl))) (by decide) (backOf (W := 0) (rm1 l Z a0 hw [] vt_ (0 : Int32)  h0 n0 Z0 ) hZ (hw _ (List.mem_of_getElem? (i := 3) rfl)) (hw _ (List.mem_of_getElem? (i := 2) rfl)) (by decide) (by decide)) (g := (mkF m 56 #[.val (.long vs), .second, .val (.long vt_), .second, .val (.int vlens), .val (.int vssid), .val (.int vpick), .val (.int xa0), .val (.int xa1), .val (.int xa2), .val (.int xa3), .val (.int xa4), .val (.int xa5), .unset, .unset, .unset, .unset, .unset, .unset, .unset, .unset, .unset, .unset, .unset, .unset, .unset, .unset, .unset, .unset, .unset] [(.int (0 : Int32)), (.long vt_)])) rfl (by rw [hml]; rfl) (argsL := [(.long vt_), (.int (0 : Int32))]) (rest := []) (lenOf pd_6 rfl) rfl (by show 2 * 0 + _ ≤ _; exact Nat.le_of_eq rfl) (hb hby at_56) (fun _ _ => ⟨rfl, e6q, (by decide : 0 + 0 ≤ _), (by decide : 0 + 0 ≤ _)⟩)
      dsimp only [Pt.U, Pt.locs, Pt.cells, Pt.slots] at X11 l11 y11 z11 st11 hQ11
      subst l11 y11 z11
      obtain ⟨rfl, N11q, e11q⟩ := hQ11
      have N11 := Fr.app N6 N11q
      have pre12 : ∀ t, Steps p.tables e below (T11.setTop (mkF m 59 #[.val (.long vs), .second, .val (.long vt_), .second, .val (.int vlens), .val (.int vssid), .val (.int vpick), .val (.int xa0), .val (.int xa1), .val (.int xa2), .val (.int xa3), .val (.int xa4), .val (.int xa5), .unset, .unset, .unset, .unset, .unset, .unset, .unset, .unset, .unset, .unset, .unset, .unset, .unset, .unset, .unset, .unset, .unset] [(.int (own_ch vt_ (0 : Int32)))])) t → Steps p.tables e below (s₁.setTop (entryFrame m #[(.long vs), (.long vt_), (.int vlens), (.int vssid), (.int vpick)] maxLocals)) t := by
        intro t kt
        refine pre8 t ?_
        show Steps p.tables e below (T6.setTop (mkF m 46 #[.val (.long vs), .second, .val (.long vt_), .second, .val (.int vlens), .val (.int vssid), .val (.int vpick), .val (.int xa0), .val (.int xa1), .val (.int xa2), .val (.int xa3), .val (.int xa4), .val (.int xa5), .unset, .unset, .unset, .unset, .unset, .unset, .unset, .unset, .unset, .unset, .unset, .unset, .unset, .unset, .unset, .unset, .unset] [(.int (vpick &&& (1 : Int32)))])) _
        refine XS.ifYes X6.here hx rfl (pc0 := 46) (pc' := 54) rfl (hb hby at_46) rfl ((if0 _ _).trans (teq (hc10 : (vpick &&& (1 : Int32)) = (0 : Int32))).1) (by decide) (by decide) ?_
        show Steps p.tables e below (T6.setTop (mkF m 54 #[.val (.long vs), .second, .val (.long vt_), .second, .val (.int vlens), .val (.int vssid), .val (.int vpick), .val (.int xa0), .val (.int xa1), .val (.int xa2), .val (.int xa3), .val (.int xa4), .val (.int xa5), .unset, .unset, .unset, .unset, .unset, .unset, .unset, .unset, .unset, .unset, .unset, .unset, .unset, .unset, .unset, .unset, .unset] [])) _
        refine XS.lloadN X6.here hx rfl (hb hby at_54) rfl ?_
        show Steps p.tables e below (T6.setTop (mkF m 55 #[.val (.long vs), .second, .val (.long vt_), .second, .val (.int vlens), .val (.int vssid), .val (.int vpick), .val (.int xa0), .val (.int xa1), .val (.int xa2), .val (.int xa3), .val (.int xa4), .val (.int xa5), .unset, .unset, .unset, .unset, .unset, .unset, .unset, .unset, .unset, .unset, .unset, .unset, .unset, .unset, .unset, .unset, .unset] [(.long vt_)])) _
        refine XS.iconst X6.here hx rfl (hb hby at_55) ?_
        show Steps p.tables e below (T6.setTop (mkF m 56 #[.val (.long vs), .second, .val (.long vt_), .second, .val (.int vlens), .val (.int vssid), .val (.int vpick), .val (.int xa0), .val (.int xa1), .val (.int xa2), .val (.int xa3), .val (.int xa4), .val (.int xa5), .unset, .unset, .unset, .unset, .unset, .unset, .unset, .unset, .unset, .unset, .unset, .unset, .unset, .unset, .unset, .unset, .unset] [(.int (0 : Int32)), (.long vt_)])) _
        refine st11 _ ?_
        exact kt
      exact ⟨T11, _, X11, e11q, N11, fun t kt => by
        simp only [if_pos hc10] at kt
        exact pre12 t kt⟩
    ·
      have pre13 : ∀ t, Steps p.tables e below (T6.setTop (mkF m 59 #[.val (.long vs), .second, .val (.long vt_), .second, .val (.int vlens), .val (.int vssid), .val (.int vpick), .val (.int xa0), .val (.int xa1), .val (.int xa2), .val (.int xa3), .val (.int xa4), .val (.int xa5), .unset, .unset, .unset, .unset, .unset, .unset, .unset, .unset, .unset, .unset, .unset, .unset, .unset, .unset, .unset, .unset, .unset] [(.int xa0)])) t → Steps p.tables e below (s₁.setTop (entryFrame m #[(.long vs), (.long vt_), (.int vlens), (.int vssid), (.int vpick)] maxLocals)) t := by
        intro t kt
        refine pre8 t ?_
        show Steps p.tables e below (T6.setTop (mkF m 46 #[.val (.long vs), .second, .val (.long vt_), .second, .val (.int vlens), .val (.int vssid), .val (.int vpick), .val (.int xa0), .val (.int xa1), .val (.int xa2), .val (.int xa3), .val (.int xa4), .val (.int xa5), .unset, .unset, .unset, .unset, .unset, .unset, .unset, .unset, .unset, .unset, .unset, .unset, .unset, .unset, .unset, .unset, .unset] [(.int (vpick &&& (1 : Int32)))])) _
        refine XS.ifNo X6.here hx rfl (hb hby at_46) rfl ((if0 _ _).trans (feq (hc10 : ¬ ((vpick &&& (1 : Int32)) = (0 : Int32)))).1) ?_
        show Steps p.tables e below (T6.setTop (mkF m 49 #[.val (.long vs), .second, .val (.long vt_), .second, .val (.int vlens), .val (.int vssid), .val (.int vpick), .val (.int xa0), .val (.int xa1), .val (.int xa2), .val (.int xa3), .val (.int xa4), .val (.int xa5), .unset, .unset, .unset, .unset, .unset, .unset, .unset, .unset, .unset, .unset, .unset, .unset, .unset, .unset, .unset, .unset, .unset] [])) _
        refine XS.iload X6.here hx rfl (hb hby at_49) rfl ?_
        show Steps p.tables e below (T6.setTop (mkF m 51 #[.val (.long vs), .second, .val (.long vt_), .second, .val (.int vlens), .val (.int vssid), .val (.int vpick), .val (.int xa0), .val (.int xa1), .val (.int xa2), .val (.int xa3), .val (.int xa4), .val (.int xa5), .unset, .unset, .unset, .unset, .unset, .unset, .unset, .unset, .unset, .unset, .unset, .unset, .unset, .unset, .unset, .unset, .unset] [(.int xa0)])) _
        refine XS.goto X6.here hx rfl (pc0 := 51) (pc' := 59) rfl (hb hby at_51) (by decide) (by decide) ?_
        exact kt
      exact ⟨T6, _, X6, e6q, N6, fun t kt => by
        simp only [if_neg hc10] at kt
        exact pre13 t kt⟩
  have pre14 : ∀ t, Steps p.tables e below (T9.setTop (mkF m 65 #[.val (.long vs), .second, .val (.long vt_), .second, .val (.int vlens), .val (.int vssid), .val (.int vpick), .val (.int xa0), .val (.int xa1), .val (.int xa2), .val (.int xa3), .val (.int xa4), .val (.int xa5), .val (.int (if (vpick &&& (1 : Int32)) = (0 : Int32) then (own_ch vt_ (0 : Int32)) else xa0)), .unset, .unset, .unset, .unset, .unset, .unset, .unset, .unset, .unset, .unset, .unset, .unset, .unset, .unset, .unset, .unset] [(.int (vpick &&& (2 : Int32)))])) t → Steps p.tables e below (s₁.setTop (entryFrame m #[(.long vs), (.long vt_), (.int vlens), (.int vssid), (.int vpick)] maxLocals)) t := by
    intro t kt
    refine pre9 t ?_
    show Steps p.tables e below (T9.setTop (mkF m 59 #[.val (.long vs), .second, .val (.long vt_), .second, .val (.int vlens), .val (.int vssid), .val (.int vpick), .val (.int xa0), .val (.int xa1), .val (.int xa2), .val (.int xa3), .val (.int xa4), .val (.int xa5), .unset, .unset, .unset, .unset, .unset, .unset, .unset, .unset, .unset, .unset, .unset, .unset, .unset, .unset, .unset, .unset, .unset] [(.int (if (vpick &&& (1 : Int32)) = (0 : Int32) then (own_ch vt_ (0 : Int32)) else xa0))])) _
    refine XS.istore X9.here hx rfl (hb hby at_59) rfl (l' := #[.val (.long vs), .second, .val (.long vt_), .second, .val (.int vlens), .val (.int vssid), .val (.int vpick), .val (.int xa0), .val (.int xa1), .val (.int xa2), .val (.int xa3), .val (.int xa4), .val (.int xa5), .val (.int (if (vpick &&& (1 : Int32)) = (0 : Int32) then (own_ch vt_ (0 : Int32)) else xa0)), .unset, .unset, .unset, .unset, .unset, .unset, .unset, .unset, .unset, .unset, .unset, .unset, .unset, .unset, .unset, .unset]) rfl ?_
    show Steps p.tables e below (T9.setTop (mkF m 61 #[.val (.long vs), .second, .val (.long vt_), .second, .val (.int vlens), .val (.int vssid), .val (.int vpick), .val (.int xa0), .val (.int xa1), .val (.int xa2), .val (.int xa3), .val (.int xa4), .val (.int xa5), .val (.int (if (vpick &&& (1 : Int32)) = (0 : Int32) then (own_ch vt_ (0 : Int32)) else xa0)), .unset, .unset, .unset, .unset, .unset, .unset, .unset, .unset, .unset, .unset, .unset, .unset, .unset, .unset, .unset, .unset] [])) _
    refine XS.iload X9.here hx rfl (hb hby at_61) rfl ?_
    show Steps p.tables e below (T9.setTop (mkF m 63 #[.val (.long vs), .second, .val (.long vt_), .second, .val (.int vlens), .val (.int vssid), .val (.int vpick), .val (.int xa0), .val (.int xa1), .val (.int xa2), .val (.int xa3), .val (.int xa4), .val (.int xa5), .val (.int (if (vpick &&& (1 : Int32)) = (0 : Int32) then (own_ch vt_ (0 : Int32)) else xa0)), .unset, .unset, .unset, .unset, .unset, .unset, .unset, .unset, .unset, .unset, .unset, .unset, .unset, .unset, .unset, .unset] [(.int vpick)])) _
    refine XS.iconst X9.here hx rfl (hb hby at_63) ?_
    show Steps p.tables e below (T9.setTop (mkF m 64 #[.val (.long vs), .second, .val (.long vt_), .second, .val (.int vlens), .val (.int vssid), .val (.int vpick), .val (.int xa0), .val (.int xa1), .val (.int xa2), .val (.int xa3), .val (.int xa4), .val (.int xa5), .val (.int (if (vpick &&& (1 : Int32)) = (0 : Int32) then (own_ch vt_ (0 : Int32)) else xa0)), .unset, .unset, .unset, .unset, .unset, .unset, .unset, .unset, .unset, .unset, .unset, .unset, .unset, .unset, .unset, .unset] [(.int (2 : Int32)), (.int vpick)])) _
    refine XS.iand X9.here hx rfl (hb hby at_64) rfl ?_
    exact kt
  obtain ⟨T15, L15, X15, e15, N15, pre15⟩ : ∃ (Tm : State) (Lm : List Loc), Stand p l e room_1 s m #[(.long vs), (.long vt_), (.int vlens), (.int vssid), (.int vpick)] below meth c Tm Lm 0 0 ∧ Tm.heap = h0 ∧ Fr n0 Lm ∧ ∀ t, Steps p.tables e below (Tm.setTop (mkF m 78 #[.val (.long vs), .second, .val (.long vt_), .second, .val (.int vlens), .val (.int vssid), .val (.int vpick), .val (.int xa0), .val (.int xa1), .val (.int xa2), .val (.int xa3), .val (.int xa4), .val (.int xa5), .val (.int (if (vpick &&& (1 : Int32)) = (0 : Int32) then (own_ch vt_ (0 : Int32)) else xa0)), .unset, .unset, .unset, .unset, .unset, .unset, .unset, .unset, .unset, .unset, .unset, .unset, .unset, .unset, .unset, .unset] [(.int (if (vpick &&& (2 : Int32)) = (0 : Int32) then (own_ch vt_ (1 : Int32)) else xa1))])) t → Steps p.tables e below (s₁.setTop (entryFrame m #[(.long vs), (.long vt_), (.int vlens), (.int vssid), (.int vpick)] maxLocals)) t := by
    by_cases hc16 : (vpick &&& (2 : Int32)) = (0 : Int32)
    ·
      obtain ⟨_, _, ⟨T17, L17, k17, n17⟩, -, X17, ⟨Lc17, hQ17, l17, y17, z17⟩, st17⟩ := Jvm.LawKit.callS X9 hx (y := (⟨"com/example/packet_radio_link/packetradiolink/frame/AddressEqualsPinLaw", "ch", "(JI)C"⟩ : MethodName)) hown (mvT hZ (hw _ (List.mem_of_getElem? (i := 0) rfl))) (mvT hZ (hw _ (List.mem_of_getElem? (i := 1) rfl))) (mvT hZ (hw _ (List.mem_of_getElem? (i := 2) rfl))) (mvT hZ (hw _ (List.mem_of_getElem? (i := 3) rfl))) (by decide) (backOf (W := 0) (rm1 l Z a0 hw [] vt_ (1 : Int32)  h0 n0 Z0 ) hZ (hw _ (List.mem_of_getElem? (i := 3) rfl)) (hw _ (List.mem_of_getElem? (i := 2) rfl)) (by decide) (by decide)) (g := (mkF m 75 #[.val (.long vs), .second, .val (.long vt_), .second, .val (.int vlens), .val (.int vssid), .val (.int vpick), .val (.int xa0), .val (.int xa1), .val (.int xa2), .val (.int xa3), .val (.int xa4), .val (.int xa5), .val (.int (if (vpick &&& (1 : Int32)) = (0 : Int32) then (own_ch vt_ (0 : Int32)) else xa0)), .unset, .unset, .unset, .unset, .unset, .unset, .unset, .unset, .unset, .unset, .unset, .unset, .unset, .unset, .unset, .unset] [(.int (1 : Int32)), (.long vt_)])) rfl (by rw [hml]; rfl) (argsL := [(.long vt_), (.int (1 : Int32))]) (rest := []) (lenOf pd_6 rfl) rfl (by show 2 * 0 + _ ≤ _; exact Nat.le_of_eq rfl) (hb hby at_75) (fun _ _ => ⟨rfl, e9, (by decide : 0 + 0 ≤ _), (by decide : 0 + 0 ≤ _)⟩)
      dsimp only [Pt.U, Pt.locs, Pt.cells, Pt.slots] at X17 l17 y17 z17 st17 hQ17
      subst l17 y17 z17
      obtain ⟨rfl, N17q, e17q⟩ := hQ17
      have N17 := Fr.app N9 N17q
      have pre18 : ∀ t, Steps p.tables e below (T17.setTop (mkF m 78 #[.val (.long vs), .second, .val (.long vt_), .second, .val (.int vlens), .val (.int vssid), .val (.int vpick), .val (.int xa0), .val (.int xa1), .val (.int xa2), .val (.int xa3), .val (.int xa4), .val (.int xa5), .val (.int (if (vpick &&& (1 : Int32)) = (0 : Int32) then (own_ch vt_ (0 : Int32)) else xa0)), .unset, .unset, .unset, .unset, .unset, .unset, .unset, .unset, .unset, .unset, .unset, .unset, .unset, .unset, .unset, .unset] [(.int (own_ch vt_ (1 : Int32)))])) t → Steps p.tables e below (s₁.setTop (entryFrame m #[(.long vs), (.long vt_), (.int vlens), (.int vssid), (.int vpick)] maxLocals)) t := by
        intro t kt
        refine pre14 t ?_
        show Steps p.tables e below (T9.setTop (mkF m 65 #[.val (.long vs), .second, .val (.long vt_), .second, .val (.int vlens), .val (.int vssid), .val (.int vpick), .val (.int xa0), .val (.int xa1), .val (.int xa2), .val (.int xa3), .val (.int xa4), .val (.int xa5), .val (.int (if (vpick &&& (1 : Int32)) = (0 : Int32) then (own_ch vt_ (0 : Int32)) else xa0)), .unset, .unset, .unset, .unset, .unset, .unset, .unset, .unset, .unset, .unset, .unset, .unset, .unset, .unset, .unset, .unset] [(.int (vpick &&& (2 : Int32)))])) _
        refine XS.ifYes X9.here hx rfl (pc0 := 65) (pc' := 73) rfl (hb hby at_65) rfl ((if0 _ _).trans (teq (hc16 : (vpick &&& (2 : Int32)) = (0 : Int32))).1) (by decide) (by decide) ?_
        show Steps p.tables e below (T9.setTop (mkF m 73 #[.val (.long vs), .second, .val (.long vt_), .second, .val (.int vlens), .val (.int vssid), .val (.int vpick), .val (.int xa0), .val (.int xa1), .val (.int xa2), .val (.int xa3), .val (.int xa4), .val (.int xa5), .val (.int (if (vpick &&& (1 : Int32)) = (0 : Int32) then (own_ch vt_ (0 : Int32)) else xa0)), .unset, .unset, .unset, .unset, .unset, .unset, .unset, .unset, .unset, .unset, .unset, .unset, .unset, .unset, .unset, .unset] [])) _
        refine XS.lloadN X9.here hx rfl (hb hby at_73) rfl ?_
        show Steps p.tables e below (T9.setTop (mkF m 74 #[.val (.long vs), .second, .val (.long vt_), .second, .val (.int vlens), .val (.int vssid), .val (.int vpick), .val (.int xa0), .val (.int xa1), .val (.int xa2), .val (.int xa3), .val (.int xa4), .val (.int xa5), .val (.int (if (vpick &&& (1 : Int32)) = (0 : Int32) then (own_ch vt_ (0 : Int32)) else xa0)), .unset, .unset, .unset, .unset, .unset, .unset, .unset, .unset, .unset, .unset, .unset, .unset, .unset, .unset, .unset, .unset] [(.long vt_)])) _
        refine XS.iconst X9.here hx rfl (hb hby at_74) ?_
        show Steps p.tables e below (T9.setTop (mkF m 75 #[.val (.long vs), .second, .val (.long vt_), .second, .val (.int vlens), .val (.int vssid), .val (.int vpick), .val (.int xa0), .val (.int xa1), .val (.int xa2), .val (.int xa3), .val (.int xa4), .val (.int xa5), .val (.int (if (vpick &&& (1 : Int32)) = (0 : Int32) then (own_ch vt_ (0 : Int32)) else xa0)), .unset, .unset, .unset, .unset, .unset, .unset, .unset, .unset, .unset, .unset, .unset, .unset, .unset, .unset, .unset, .unset] [(.int (1 : Int32)), (.long vt_)])) _
        refine st17 _ ?_
        exact kt
      exact ⟨T17, _, X17, e17q, N17, fun t kt => by
        simp only [if_pos hc16] at kt
        exact pre18 t kt⟩
    ·
      have pre19 : ∀ t, Steps p.tables e below (T9.setTop (mkF m 78 #[.val (.long vs), .second, .val (.long vt_), .second, .val (.int vlens), .val (.int vssid), .val (.int vpick), .val (.int xa0), .val (.int xa1), .val (.int xa2), .val (.int xa3), .val (.int xa4), .val (.int xa5), .val (.int (if (vpick &&& (1 : Int32)) = (0 : Int32) then (own_ch vt_ (0 : Int32)) else xa0)), .unset, .unset, .unset, .unset, .unset, .unset, .unset, .unset, .unset, .unset, .unset, .unset, .unset, .unset, .unset, .unset] [(.int xa1)])) t → Steps p.tables e below (s₁.setTop (entryFrame m #[(.long vs), (.long vt_), (.int vlens), (.int vssid), (.int vpick)] maxLocals)) t := by
        intro t kt
        refine pre14 t ?_
        show Steps p.tables e below (T9.setTop (mkF m 65 #[.val (.long vs), .second, .val (.long vt_), .second, .val (.int vlens), .val (.int vssid), .val (.int vpick), .val (.int xa0), .val (.int xa1), .val (.int xa2), .val (.int xa3), .val (.int xa4), .val (.int xa5), .val (.int (if (vpick &&& (1 : Int32)) = (0 : Int32) then (own_ch vt_ (0 : Int32)) else xa0)), .unset, .unset, .unset, .unset, .unset, .unset, .unset, .unset, .unset, .unset, .unset, .unset, .unset, .unset, .unset, .unset] [(.int (vpick &&& (2 : Int32)))])) _
        refine XS.ifNo X9.here hx rfl (hb hby at_65) rfl ((if0 _ _).trans (feq (hc16 : ¬ ((vpick &&& (2 : Int32)) = (0 : Int32)))).1) ?_
        show Steps p.tables e below (T9.setTop (mkF m 68 #[.val (.long vs), .second, .val (.long vt_), .second, .val (.int vlens), .val (.int vssid), .val (.int vpick), .val (.int xa0), .val (.int xa1), .val (.int xa2), .val (.int xa3), .val (.int xa4), .val (.int xa5), .val (.int (if (vpick &&& (1 : Int32)) = (0 : Int32) then (own_ch vt_ (0 : Int32)) else xa0)), .unset, .unset, .unset, .unset, .unset, .unset, .unset, .unset, .unset, .unset, .unset, .unset, .unset, .unset, .unset, .unset] [])) _
        refine XS.iload X9.here hx rfl (hb hby at_68) rfl ?_
        show Steps p.tables e below (T9.setTop (mkF m 70 #[.val (.long vs), .second, .val (.long vt_), .second, .val (.int vlens), .val (.int vssid), .val (.int vpick), .val (.int xa0), .val (.int xa1), .val (.int xa2), .val (.int xa3), .val (.int xa4), .val (.int xa5), .val (.int (if (vpick &&& (1 : Int32)) = (0 : Int32) then (own_ch vt_ (0 : Int32)) else xa0)), .unset, .unset, .unset, .unset, .unset, .unset, .unset, .unset, .unset, .unset, .unset, .unset, .unset, .unset, .unset, .unset] [(.int xa1)])) _
        refine XS.goto X9.here hx rfl (pc0 := 70) (pc' := 78) rfl (hb hby at_70) (by decide) (by decide) ?_
        exact kt
      exact ⟨T9, _, X9, e9, N9, fun t kt => by
        simp only [if_neg hc16] at kt
        exact pre19 t kt⟩
  have pre20 : ∀ t, Steps p.tables e below (T15.setTop (mkF m 84 #[.val (.long vs), .second, .val (.long vt_), .second, .val (.int vlens), .val (.int vssid), .val (.int vpick), .val (.int xa0), .val (.int xa1), .val (.int xa2), .val (.int xa3), .val (.int xa4), .val (.int xa5), .val (.int (if (vpick &&& (1 : Int32)) = (0 : Int32) then (own_ch vt_ (0 : Int32)) else xa0)), .val (.int (if (vpick &&& (2 : Int32)) = (0 : Int32) then (own_ch vt_ (1 : Int32)) else xa1)), .unset, .unset, .unset, .unset, .unset, .unset, .unset, .unset, .unset, .unset, .unset, .unset, .unset, .unset, .unset] [(.int (vpick &&& (4 : Int32)))])) t → Steps p.tables e below (s₁.setTop (entryFrame m #[(.long vs), (.long vt_), (.int vlens), (.int vssid), (.int vpick)] maxLocals)) t := by
    intro t kt
    refine pre15 t ?_
    show Steps p.tables e below (T15.setTop (mkF m 78 #[.val (.long vs), .second, .val (.long vt_), .second, .val (.int vlens), .val (.int vssid), .val (.int vpick), .val (.int xa0), .val (.int xa1), .val (.int xa2), .val (.int xa3), .val (.int xa4), .val (.int xa5), .val (.int (if (vpick &&& (1 : Int32)) = (0 : Int32) then (own_ch vt_ (0 : Int32)) else xa0)), .unset, .unset, .unset, .unset, .unset, .unset, .unset, .unset, .unset, .unset, .unset, .unset, .unset, .unset, .unset, .unset] [(.int (if (vpick &&& (2 : Int32)) = (0 : Int32) then (own_ch vt_ (1 : Int32)) else xa1))])) _
    refine XS.istore X15.here hx rfl (hb hby at_78) rfl (l' := #[.val (.long vs), .second, .val (.long vt_), .second, .val (.int vlens), .val (.int vssid), .val (.int vpick), .val (.int xa0), .val (.int xa1), .val (.int xa2), .val (.int xa3), .val (.int xa4), .val (.int xa5), .val (.int (if (vpick &&& (1 : Int32)) = (0 : Int32) then (own_ch vt_ (0 : Int32)) else xa0)), .val (.int (if (vpick &&& (2 : Int32)) = (0 : Int32) then (own_ch vt_ (1 : Int32)) else xa1)), .unset, .unset, .unset, .unset, .unset, .unset, .unset, .unset, .unset, .unset, .unset, .unset, .unset, .unset, .unset]) rfl ?_
    show Steps p.tables e below (T15.setTop (mkF m 80 #[.val (.long vs), .second, .val (.long vt_), .second, .val (.int vlens), .val (.int vssid), .val (.int vpick), .val (.int xa0), .val (.int xa1), .val (.int xa2), .val (.int xa3), .val (.int xa4), .val (.int xa5), .val (.int (if (vpick &&& (1 : Int32)) = (0 : Int32) then (own_ch vt_ (0 : Int32)) else xa0)), .val (.int (if (vpick &&& (2 : Int32)) = (0 : Int32) then (own_ch vt_ (1 : Int32)) else xa1)), .unset, .unset, .unset, .unset, .unset, .unset, .unset, .unset, .unset, .unset, .unset, .unset, .unset, .unset, .unset] [])) _
    refine XS.iload X15.here hx rfl (hb hby at_80) rfl ?_
    show Steps p.tables e below (T15.setTop (mkF m 82 #[.val (.long vs), .second, .val (.long vt_), .second, .val (.int vlens), .val (.int vssid), .val (.int vpick), .val (.int xa0), .val (.int xa1), .val (.int xa2), .val (.int xa3), .val (.int xa4), .val (.int xa5), .val (.int (if (vpick &&& (1 : Int32)) = (0 : Int32) then (own_ch vt_ (0 : Int32)) else xa0)), .val (.int (if (vpick &&& (2 : Int32)) = (0 : Int32) then (own_ch vt_ (1 : Int32)) else xa1)), .unset, .unset, .unset, .unset, .unset, .unset, .unset, .unset, .unset, .unset, .unset, .unset, .unset, .unset, .unset] [(.int vpick)])) _
    refine XS.iconst X15.here hx rfl (hb hby at_82) ?_
    show Steps p.tables e below (T15.setTop (mkF m 83 #[.val (.long vs), .second, .val (.long vt_), .second, .val (.int vlens), .val (.int vssid), .val (.int vpick), .val (.int xa0), .val (.int xa1), .val (.int xa2), .val (.int xa3), .val (.int xa4), .val (.int xa5), .val (.int (if (vpick &&& (1 : Int32)) = (0 : Int32) then (own_ch vt_ (0 : Int32)) else xa0)), .val (.int (if (vpick &&& (2 : Int32)) = (0 : Int32) then (own_ch vt_ (1 : Int32)) else xa1)), .unset, .unset, .unset, .unset, .unset, .unset, .unset, .unset, .unset, .unset, .unset, .unset, .unset, .unset, .unset] [(.int (4 : Int32)), (.int vpick)])) _
    refine XS.iand X15.here hx rfl (hb hby at_83) rfl ?_
    exact kt
  obtain ⟨T21, L21, X21, e21, N21, pre21⟩ : ∃ (Tm : State) (Lm : List Loc), Stand p l e room_1 s m #[(.long vs), (.long vt_), (.int vlens), (.int vssid), (.int vpick)] below meth c Tm Lm 0 0 ∧ Tm.heap = h0 ∧ Fr n0 Lm ∧ ∀ t, Steps p.tables e below (Tm.setTop (mkF m 97 #[.val (.long vs), .second, .val (.long vt_), .second, .val (.int vlens), .val (.int vssid), .val (.int vpick), .val (.int xa0), .val (.int xa1), .val (.int xa2), .val (.int xa3), .val (.int xa4), .val (.int xa5), .val (.int (if (vpick &&& (1 : Int32)) = (0 : Int32) then (own_ch vt_ (0 : Int32)) else xa0)), .val (.int (if (vpick &&& (2 : Int32)) = (0 : Int32) then (own_ch vt_ (1 : Int32)) else xa1)), .unset, .unset, .unset, .unset, .unset, .unset, .unset, .unset, .unset, .unset, .unset, .unset, .unset, .unset, .unset] [(.int (if (vpick &&& (4 : Int32)) = (0 : Int32) then (own_ch vt_ (2 : Int32)) else xa2))])) t → Steps p.tables e below (s₁.setTop (entryFrame m #[(.long vs), (.long vt_), (.int vlens), (.int vssid), (.int vpick)] maxLocals)) t := by
    by_cases hc22 : (vpick &&& (4 : Int32)) = (0 : Int32)
    ·
      obtain ⟨_, _, ⟨T23, L23, k23, n23⟩, -, X23, ⟨Lc23, hQ23, l23, y23, z23⟩, st23⟩ := Jvm.LawKit.callS X15 hx (y := (⟨"com/example/packet_radio_link/packetradiolink/frame/AddressEqualsPinLaw", "ch", "(JI)C"⟩ : MethodName)) hown (mvT hZ (hw _ (List.mem_of_getElem? (i := 0) rfl))) (mvT hZ (hw _ (List.mem_of_getElem? (i := 1) rfl))) (mvT hZ (hw _ (List.mem_of_getElem? (i := 2) rfl))) (mvT hZ (hw _ (List.mem_of_getElem? (i := 3) rfl))) (by decide) (backOf (W := 0) (rm1 l Z a0 hw [] vt_ (2 : Int32)  h0 n0 Z0 ) hZ (hw _ (List.mem_of_getElem? (i := 3) rfl)) (hw _ (List.mem_of_getElem? (i := 2) rfl)) (by decide) (by decide)) (g := (mkF m 94 #[.val (.long vs), .second, .val (.long vt_), .second, .val (.int vlens), .val (.int vssid), .val (.int vpick), .val (.int xa0), .val (.int xa1), .val (.int xa2), .val (.int xa3), .val (.int xa4), .val (.int xa5), .val (.int (if (vpick &&& (1 : Int32)) = (0 : Int32) then (own_ch vt_ (0 : Int32)) else xa0)), .val (.int (if (vpick &&& (2 : Int32)) = (0 : Int32) then (own_ch vt_ (1 : Int32)) else xa1)), .unset, .unset, .unset, .unset, .unset, .unset, .unset, .unset, .unset, .unset, .unset, .unset, .unset, .unset, .unset] [(.int (2 : Int32)), (.long vt_)])) rfl (by rw [hml]; rfl) (argsL := [(.long vt_), (.int (2 : Int32))]) (rest := []) (lenOf pd_6 rfl) rfl (by show 2 * 0 + _ ≤ _; exact Nat.le_of_eq rfl) (hb hby at_94) (fun _ _ => ⟨rfl, e15, (by decide : 0 + 0 ≤ _), (by decide : 0 + 0 ≤ _)⟩)
      dsimp only [Pt.U, Pt.locs, Pt.cells, Pt.slots] at X23 l23 y23 z23 st23 hQ23
      subst l23 y23 z23
      obtain ⟨rfl, N23q, e23q⟩ := hQ23
      have N23 := Fr.app N15 N23q
      have pre24 : ∀ t, Steps p.tables e below (T23.setTop (mkF m 97 #[.val (.long vs), .second, .val (.long vt_), .second, .val (.int vlens), .val (.int vssid), .val (.int vpick), .val (.int xa0), .val (.int xa1), .val (.int xa2), .val (.int xa3), .val (.int xa4), .val (.int xa5), .val (.int (if (vpick &&& (1 : Int32)) = (0 : Int32) then (own_ch vt_ (0 : Int32)) else xa0)), .val (.int (if (vpick &&& (2 : Int32)) = (0 : Int32) then (own_ch vt_ (1 : Int32)) else xa1)), .unset, .unset, .unset, .unset, .unset, .unset, .unset, .unset, .unset, .unset, .unset, .unset, .unset, .unset, .unset] [(.int (own_ch vt_ (2 : Int32)))])) t → Steps p.tables e below (s₁.setTop (entryFrame m #[(.long vs), (.long vt_), (.int vlens), (.int vssid), (.int vpick)] maxLocals)) t := by
        intro t kt
        refine pre20 t ?_
        show Steps p.tables e below (T15.setTop (mkF m 84 #[.val (.long vs), .second, .val (.long vt_), .second, .val (.int vlens), .val (.int vssid), .val (.int vpick), .val (.int xa0), .val (.int xa1), .val (.int xa2), .val (.int xa3), .val (.int xa4), .val (.int xa5), .val (.int (if (vpick &&& (1 : Int32)) = (0 : Int32) then (own_ch vt_ (0 : Int32)) else xa0)), .val (.int (if (vpick &&& (2 : Int32)) = (0 : Int32) then (own_ch vt_ (1 : Int32)) else xa1)), .unset, .unset, .unset, .unset, .unset, .unset, .unset, .unset, .unset, .unset, .unset, .unset, .unset, .unset, .unset] [(.int (vpick &&& (4 : Int32)))])) _
        refine XS.ifYes X15.here hx rfl (pc0 := 84) (pc' := 92) rfl (hb hby at_84) rfl ((if0 _ _).trans (teq (hc22 : (vpick &&& (4 : Int32)) = (0 : Int32))).1) (by decide) (by decide) ?_
        show Steps p.tables e below (T15.setTop (mkF m 92 #[.val (.long vs), .second, .val (.long vt_), .second, .val (.int vlens), .val (.int vssid), .val (.int vpick), .val (.int xa0), .val (.int xa1), .val (.int xa2), .val (.int xa3), .val (.int xa4), .val (.int xa5), .val (.int (if (vpick &&& (1 : Int32)) = (0 : Int32) then (own_ch vt_ (0 : Int32)) else xa0)), .val (.int (if (vpick &&& (2 : Int32)) = (0 : Int32) then (own_ch vt_ (1 : Int32)) else xa1)), .unset, .unset, .unset, .unset, .unset, .unset, .unset, .unset, .unset, .unset, .unset, .unset, .unset, .unset, .unset] [])) _
        refine XS.lloadN X15.here hx rfl (hb hby at_92) rfl ?_
        show Steps p.tables e below (T15.setTop (mkF m 93 #[.val (.long vs), .second, .val (.long vt_), .second, .val (.int vlens), .val (.int vssid), .val (.int vpick), .val (.int xa0), .val (.int xa1), .val (.int xa2), .val (.int xa3), .val (.int xa4), .val (.int xa5), .val (.int (if (vpick &&& (1 : Int32)) = (0 : Int32) then (own_ch vt_ (0 : Int32)) else xa0)), .val (.int (if (vpick &&& (2 : Int32)) = (0 : Int32) then (own_ch vt_ (1 : Int32)) else xa1)), .unset, .unset, .unset, .unset, .unset, .unset, .unset, .unset, .unset, .unset, .unset, .unset, .unset, .unset, .unset] [(.long vt_)])) _
        refine XS.iconst X15.here hx rfl (hb hby at_93) ?_
        show Steps p.tables e below (T15.setTop (mkF m 94 #[.val (.long vs), .second, .val (.long vt_), .second, .val (.int vlens), .val (.int vssid), .val (.int vpick), .val (.int xa0), .val (.int xa1), .val (.int xa2), .val (.int xa3), .val (.int xa4), .val (.int xa5), .val (.int (if (vpick &&& (1 : Int32)) = (0 : Int32) then (own_ch vt_ (0 : Int32)) else xa0)), .val (.int (if (vpick &&& (2 : Int32)) = (0 : Int32) then (own_ch vt_ (1 : Int32)) else xa1)), .unset, .unset, .unset, .unset, .unset, .unset, .unset, .unset, .unset, .unset, .unset, .unset, .unset, .unset, .unset] [(.int (2 : Int32)), (.long vt_)])) _
        refine st23 _ ?_
        exact kt
      exact ⟨T23, _, X23, e23q, N23, fun t kt => by
        simp only [if_pos hc22] at kt
        exact pre24 t kt⟩
    ·
      have pre25 : ∀ t, Steps p.tables e below (T15.setTop (mkF m 97 #[.val (.long vs), .second, .val (.long vt_), .second, .val (.int vlens), .val (.int vssid), .val (.int vpick), .val (.int xa0), .val (.int xa1), .val (.int xa2), .val (.int xa3), .val (.int xa4), .val (.int xa5), .val (.int (if (vpick &&& (1 : Int32)) = (0 : Int32) then (own_ch vt_ (0 : Int32)) else xa0)), .val (.int (if (vpick &&& (2 : Int32)) = (0 : Int32) then (own_ch vt_ (1 : Int32)) else xa1)), .unset, .unset, .unset, .unset, .unset, .unset, .unset, .unset, .unset, .unset, .unset, .unset, .unset, .unset, .unset] [(.int xa2)])) t → Steps p.tables e below (s₁.setTop (entryFrame m #[(.long vs), (.long vt_), (.int vlens), (.int vssid), (.int vpick)] maxLocals)) t := by
        intro t kt
        refine pre20 t ?_
        show Steps p.tables e below (T15.setTop (mkF m 84 #[.val (.long vs), .second, .val (.long vt_), .second, .val (.int vlens), .val (.int vssid), .val (.int vpick), .val (.int xa0), .val (.int xa1), .val (.int xa2), .val (.int xa3), .val (.int xa4), .val (.int xa5), .val (.int (if (vpick &&& (1 : Int32)) = (0 : Int32) then (own_ch vt_ (0 : Int32)) else xa0)), .val (.int (if (vpick &&& (2 : Int32)) = (0 : Int32) then (own_ch vt_ (1 : Int32)) else xa1)), .unset, .unset, .unset, .unset, .unset, .unset, .unset, .unset, .unset, .unset, .unset, .unset, .unset, .unset, .unset] [(.int (vpick &&& (4 : Int32)))])) _
        refine XS.ifNo X15.here hx rfl (hb hby at_84) rfl ((if0 _ _).trans (feq (hc22 : ¬ ((vpick &&& (4 : Int32)) = (0 : Int32)))).1) ?_
        show Steps p.tables e below (T15.setTop (mkF m 87 #[.val (.long vs), .second, .val (.long vt_), .second, .val (.int vlens), .val (.int vssid), .val (.int vpick), .val (.int xa0), .val (.int xa1), .val (.int xa2), .val (.int xa3), .val (.int xa4), .val (.int xa5), .val (.int (if (vpick &&& (1 : Int32)) = (0 : Int32) then (own_ch vt_ (0 : Int32)) else xa0)), .val (.int (if (vpick &&& (2 : Int32)) = (0 : Int32) then (own_ch vt_ (1 : Int32)) else xa1)), .unset, .unset, .unset, .unset, .unset, .unset, .unset, .unset, .unset, .unset, .unset, .unset, .unset, .unset, .unset] [])) _
        refine XS.iload X15.here hx rfl (hb hby at_87) rfl ?_
        show Steps p.tables e below (T15.setTop (mkF m 89 #[.val (.long vs), .second, .val (.long vt_), .second, .val (.int vlens), .val (.int vssid), .val (.int vpick), .val (.int xa0), .val (.int xa1), .val (.int xa2), .val (.int xa3), .val (.int xa4), .val (.int xa5), .val (.int (if (vpick &&& (1 : Int32)) = (0 : Int32) then (own_ch vt_ (0 : Int32)) else xa0)), .val (.int (if (vpick &&& (2 : Int32)) = (0 : Int32) then (own_ch vt_ (1 : Int32)) else xa1)), .unset, .unset, .unset, .unset, .unset, .unset, .unset, .unset, .unset, .unset, .unset, .unset, .unset, .unset, .unset] [(.int xa2)])) _
        refine XS.goto X15.here hx rfl (pc0 := 89) (pc' := 97) rfl (hb hby at_89) (by decide) (by decide) ?_
        exact kt
      exact ⟨T15, _, X15, e15, N15, fun t kt => by
        simp only [if_neg hc22] at kt
        exact pre25 t kt⟩
  have pre26 : ∀ t, Steps p.tables e below (T21.setTop (mkF m 104 #[.val (.long vs), .second, .val (.long vt_), .second, .val (.int vlens), .val (.int vssid), .val (.int vpick), .val (.int xa0), .val (.int xa1), .val (.int xa2), .val (.int xa3), .val (.int xa4), .val (.int xa5), .val (.int (if (vpick &&& (1 : Int32)) = (0 : Int32) then (own_ch vt_ (0 : Int32)) else xa0)), .val (.int (if (vpick &&& (2 : Int32)) = (0 : Int32) then (own_ch vt_ (1 : Int32)) else xa1)), .val (.int (if (vpick &&& (4 : Int32)) = (0 : Int32) then (own_ch vt_ (2 : Int32)) else xa2)), .unset, .unset, .unset, .unset, .unset, .unset, .unset, .unset, .unset, .unset, .unset, .unset, .unset, .unset] [(.int (vpick &&& (8 : Int32)))])) t → Steps p.tables e below (s₁.setTop (entryFrame m #[(.long vs), (.long vt_), (.int vlens), (.int vssid), (.int vpick)] maxLocals)) t := by
    intro t kt
    refine pre21 t ?_
    show Steps p.tables e below (T21.setTop (mkF m 97 #[.val (.long vs), .second, .val (.long vt_), .second, .val (.int vlens), .val (.int vssid), .val (.int vpick), .val (.int xa0), .val (.int xa1), .val (.int xa2), .val (.int xa3), .val (.int xa4), .val (.int xa5), .val (.int (if (vpick &&& (1 : Int32)) = (0 : Int32) then (own_ch vt_ (0 : Int32)) else xa0)), .val (.int (if (vpick &&& (2 : Int32)) = (0 : Int32) then (own_ch vt_ (1 : Int32)) else xa1)), .unset, .unset, .unset, .unset, .unset, .unset, .unset, .unset, .unset, .unset, .unset, .unset, .unset, .unset, .unset] [(.int (if (vpick &&& (4 : Int32)) = (0 : Int32) then (own_ch vt_ (2 : Int32)) else xa2))])) _
    refine XS.istore X21.here hx rfl (hb hby at_97) rfl (l' := #[.val (.long vs), .second, .val (.long vt_), .second, .val (.int vlens), .val (.int vssid), .val (.int vpick), .val (.int xa0), .val (.int xa1), .val (.int xa2), .val (.int xa3), .val (.int xa4), .val (.int xa5), .val (.int (if (vpick &&& (1 : Int32)) = (0 : Int32) then (own_ch vt_ (0 : Int32)) else xa0)), .val (.int (if (vpick &&& (2 : Int32)) = (0 : Int32) then (own_ch vt_ (1 : Int32)) else xa1)), .val (.int (if (vpick &&& (4 : Int32)) = (0 : Int32) then (own_ch vt_ (2 : Int32)) else xa2)), .unset, .unset, .unset, .unset, .unset, .unset, .unset, .unset, .unset, .unset, .unset, .unset, .unset, .unset]) rfl ?_
    show Steps p.tables e below (T21.setTop (mkF m 99 #[.val (.long vs), .second, .val (.long vt_), .second, .val (.int vlens), .val (.int vssid), .val (.int vpick), .val (.int xa0), .val (.int xa1), .val (.int xa2), .val (.int xa3), .val (.int xa4), .val (.int xa5), .val (.int (if (vpick &&& (1 : Int32)) = (0 : Int32) then (own_ch vt_ (0 : Int32)) else xa0)), .val (.int (if (vpick &&& (2 : Int32)) = (0 : Int32) then (own_ch vt_ (1 : Int32)) else xa1)), .val (.int (if (vpick &&& (4 : Int32)) = (0 : Int32) then (own_ch vt_ (2 : Int32)) else xa2)), .unset, .unset, .unset, .unset, .unset, .unset, .unset, .unset, .unset, .unset, .unset, .unset, .unset, .unset] [])) _
    refine XS.iload X21.here hx rfl (hb hby at_99) rfl ?_
    show Steps p.tables e below (T21.setTop (mkF m 101 #[.val (.long vs), .second, .val (.long vt_), .second, .val (.int vlens), .val (.int vssid), .val (.int vpick), .val (.int xa0), .val (.int xa1), .val (.int xa2), .val (.int xa3), .val (.int xa4), .val (.int xa5), .val (.int (if (vpick &&& (1 : Int32)) = (0 : Int32) then (own_ch vt_ (0 : Int32)) else xa0)), .val (.int (if (vpick &&& (2 : Int32)) = (0 : Int32) then (own_ch vt_ (1 : Int32)) else xa1)), .val (.int (if (vpick &&& (4 : Int32)) = (0 : Int32) then (own_ch vt_ (2 : Int32)) else xa2)), .unset, .unset, .unset, .unset, .unset, .unset, .unset, .unset, .unset, .unset, .unset, .unset, .unset, .unset] [(.int vpick)])) _
    refine XS.bipush X21.here hx rfl (hb hby at_101) ?_
    show Steps p.tables e below (T21.setTop (mkF m 103 #[.val (.long vs), .second, .val (.long vt_), .second, .val (.int vlens), .val (.int vssid), .val (.int vpick), .val (.int xa0), .val (.int xa1), .val (.int xa2), .val (.int xa3), .val (.int xa4), .val (.int xa5), .val (.int (if (vpick &&& (1 : Int32)) = (0 : Int32) then (own_ch vt_ (0 : Int32)) else xa0)), .val (.int (if (vpick &&& (2 : Int32)) = (0 : Int32) then (own_ch vt_ (1 : Int32)) else xa1)), .val (.int (if (vpick &&& (4 : Int32)) = (0 : Int32) then (own_ch vt_ (2 : Int32)) else xa2)), .unset, .unset, .unset, .unset, .unset, .unset, .unset, .unset, .unset, .unset, .unset, .unset, .unset, .unset] [(.int (8 : Int32)), (.int vpick)])) _
    refine XS.iand X21.here hx rfl (hb hby at_103) rfl ?_
    exact kt
  obtain ⟨T27, L27, X27, e27, N27, pre27⟩ : ∃ (Tm : State) (Lm : List Loc), Stand p l e room_1 s m #[(.long vs), (.long vt_), (.int vlens), (.int vssid), (.int vpick)] below meth c Tm Lm 0 0 ∧ Tm.heap = h0 ∧ Fr n0 Lm ∧ ∀ t, Steps p.tables e below (Tm.setTop (mkF m 117 #[.val (.long vs), .second, .val (.long vt_), .second, .val (.int vlens), .val (.int vssid), .val (.int vpick), .val (.int xa0), .val (.int xa1), .val (.int xa2), .val (.int xa3), .val (.int xa4), .val (.int xa5), .val (.int (if (vpick &&& (1 : Int32)) = (0 : Int32) then (own_ch vt_ (0 : Int32)) else xa0)), .val (.int (if (vpick &&& (2 : Int32)) = (0 : Int32) then (own_ch vt_ (1 : Int32)) else xa1)), .val (.int (if (vpick &&& (4 : Int32)) = (0 : Int32) then (own_ch vt_ (2 : Int32)) else xa2)), .unset, .unset, .unset, .unset, .unset, .unset, .unset, .unset, .unset, .unset, .unset, .unset, .unset, .unset] [(.int (if (vpick &&& (8 : Int32)) = (0 : Int32) then (own_ch vt_ (3 : Int32)) else xa3))])) t → Steps p.tables e below (s₁.setTop (entryFrame m #[(.long vs), (.long vt_), (.int vlens), (.int vssid), (.int vpick)] maxLocals)) t := by
    by_cases hc28 : (vpick &&& (8 : Int32)) = (0 : Int32)
    ·
      obtain ⟨_, _, ⟨T29, L29, k29, n29⟩, -, X29, ⟨Lc29, hQ29, l29, y29, z29⟩, st29⟩ := Jvm.LawKit.callS X21 hx (y := (⟨"com/example/packet_radio_link/packetradiolink/frame/AddressEqualsPinLaw", "ch", "(JI)C"⟩ : MethodName)) hown (mvT hZ (hw _ (List.mem_of_getElem? (i := 0) rfl))) (mvT hZ (hw _ (List.mem_of_getElem? (i := 1) rfl))) (mvT hZ (hw _ (List.mem_of_getElem? (i := 2) rfl))) (mvT hZ (hw _ (List.mem_of_getElem? (i := 3) rfl))) (by decide) (backOf (W := 0) (rm1 l Z a0 hw [] vt_ (3 : Int32)  h0 n0 Z0 ) hZ (hw _ (List.mem_of_getElem? (i := 3) rfl)) (hw _ (List.mem_of_getElem? (i := 2) rfl)) (by decide) (by decide)) (g := (mkF m 114 #[.val (.long vs), .second, .val (.long vt_), .second, .val (.int vlens), .val (.int vssid), .val (.int vpick), .val (.int xa0), .val (.int xa1), .val (.int xa2), .val (.int xa3), .val (.int xa4), .val (.int xa5), .val (.int (if (vpick &&& (1 : Int32)) = (0 : Int32) then (own_ch vt_ (0 : Int32)) else xa0)), .val (.int (if (vpick &&& (2 : Int32)) = (0 : Int32) then (own_ch vt_ (1 : Int32)) else xa1)), .val (.int (if (vpick &&& (4 : Int32)) = (0 : Int32) then (own_ch vt_ (2 : Int32)) else xa2)), .unset, .unset, .unset, .unset, .unset, .unset, .unset, .unset, .unset, .unset, .unset, .unset, .unset, .unset] [(.int (3 : Int32)), (.long vt_)])) rfl (by rw [hml]; rfl) (argsL := [(.long vt_), (.int (3 : Int32))]) (rest := []) (lenOf pd_6 rfl) rfl (by show 2 * 0 + _ ≤ _; exact Nat.le_of_eq rfl) (hb hby at_114) (fun _ _ => ⟨rfl, e21, (by decide : 0 + 0 ≤ _), (by decide : 0 + 0 ≤ _)⟩)
      dsimp only [Pt.U, Pt.locs, Pt.cells, Pt.slots] at X29 l29 y29 z29 st29 hQ29
      subst l29 y29 z29
      obtain ⟨rfl, N29q, e29q⟩ := hQ29
      have N29 := Fr.app N21 N29q
      have pre30 : ∀ t, Steps p.tables e below (T29.setTop (mkF m 117 #[.val (.long vs), .second, .val (.long vt_), .second, .val (.int vlens), .val (.int vssid), .val (.int vpick), .val (.int xa0), .val (.int xa1), .val (.int xa2), .val (.int xa3), .val (.int xa4), .val (.int xa5), .val (.int (if (vpick &&& (1 : Int32)) = (0 : Int32) then (own_ch vt_ (0 : Int32)) else xa0)), .val (.int (if (vpick &&& (2 : Int32)) = (0 : Int32) then (own_ch vt_ (1 : Int32)) else xa1)), .val (.int (if (vpick &&& (4 : Int32)) = (0 : Int32) then (own_ch vt_ (2 : Int32)) else xa2)), .unset, .unset, .unset, .unset, .unset, .unset, .unset, .unset, .unset, .unset, .unset, .unset, .unset, .unset] [(.int (own_ch vt_ (3 : Int32)))])) t → Steps p.tables e below (s₁.setTop (entryFrame m #[(.long vs), (.long vt_), (.int vlens), (.int vssid), (.int vpick)] maxLocals)) t := by
        intro t kt
        refine pre26 t ?_
        show Steps p.tables e below (T21.setTop (mkF m 104 #[.val (.long vs), .second, .val (.long vt_), .second, .val (.int vlens), .val (.int vssid), .val (.int vpick), .val (.int xa0), .val (.int xa1), .val (.int xa2), .val (.int xa3), .val (.int xa4), .val (.int xa5), .val (.int (if (vpick &&& (1 : Int32)) = (0 : Int32) then (own_ch vt_ (0 : Int32)) else xa0)), .val (.int (if (vpick &&& (2 : Int32)) = (0 : Int32) then (own_ch vt_ (1 : Int32)) else xa1)), .val (.int (if (vpick &&& (4 : Int32)) = (0 : Int32) then (own_ch vt_ (2 : Int32)) else xa2)), .unset, .unset, .unset, .unset, .unset, .unset, .unset, .unset, .unset, .unset, .unset, .unset, .unset, .unset] [(.int (vpick &&& (8 : Int32)))])) _
        refine XS.ifYes X21.here hx rfl (pc0 := 104) (pc' := 112) rfl (hb hby at_104) rfl ((if0 _ _).trans (teq (hc28 : (vpick &&& (8 : Int32)) = (0 : Int32))).1) (by decide) (by decide) ?_
        show Steps p.tables e below (T21.setTop (mkF m 112 #[.val (.long vs), .second, .val (.long vt_), .second, .val (.int vlens), .val (.int vssid), .val (.int vpick), .val (.int xa0), .val (.int xa1), .val (.int xa2), .val (.int xa3), .val (.int xa4), .val (.int xa5), .val (.int (if (vpick &&& (1 : Int32)) = (0 : Int32) then (own_ch vt_ (0 : Int32)) else xa0)), .val (.int (if (vpick &&& (2 : Int32)) = (0 : Int32) then (own_ch vt_ (1 : Int32)) else xa1)), .val (.int (if (vpick &&& (4 : Int32)) = (0 : Int32) then (own_ch vt_ (2 : Int32)) else xa2)), .unset, .unset, .unset, .unset, .unset, .unset, .unset, .unset, .unset, .unset, .unset, .unset, .unset, .unset] [])) _
        refine XS.lloadN X21.here hx rfl (hb hby at_112) rfl ?_
        show Steps p.tables e below (T21.setTop (mkF m 113 #[.val (.long vs), .second, .val (.long vt_), .second, .val (.int vlens), .val (.int vssid), .val (.int vpick), .val (.int xa0), .val (.int xa1), .val (.int xa2), .val (.int xa3), .val (.int xa4), .val (.int xa5), .val (.int (if (vpick &&& (1 : Int32)) = (0 : Int32) then (own_ch vt_ (0 : Int32)) else xa0)), .val (.int (if (vpick &&& (2 : Int32)) = (0 : Int32) then (own_ch vt_ (1 : Int32)) else xa1)), .val (.int (if (vpick &&& (4 : Int32)) = (0 : Int32) then (own_ch vt_ (2 : Int32)) else xa2)), .unset, .unset, .unset, .unset, .unset, .unset, .unset, .unset, .unset, .unset, .unset, .unset, .unset, .unset] [(.long vt_)])) _
        refine XS.iconst X21.here hx rfl (hb hby at_113) ?_
        show Steps p.tables e below (T21.setTop (mkF m 114 #[.val (.long vs), .second, .val (.long vt_), .second, .val (.int vlens), .val (.int vssid), .val (.int vpick), .val (.int xa0), .val (.int xa1), .val (.int xa2), .val (.int xa3), .val (.int xa4), .val (.int xa5), .val (.int (if (vpick &&& (1 : Int32)) = (0 : Int32) then (own_ch vt_ (0 : Int32)) else xa0)), .val (.int (if (vpick &&& (2 : Int32)) = (0 : Int32) then (own_ch vt_ (1 : Int32)) else xa1)), .val (.int (if (vpick &&& (4 : Int32)) = (0 : Int32) then (own_ch vt_ (2 : Int32)) else xa2)), .unset, .unset, .unset, .unset, .unset, .unset, .unset, .unset, .unset, .unset, .unset, .unset, .unset, .unset] [(.int (3 : Int32)), (.long vt_)])) _
        refine st29 _ ?_
        exact kt
      exact ⟨T29, _, X29, e29q, N29, fun t kt => by
        simp only [if_pos hc28] at kt
        exact pre30 t kt⟩
    ·
      have pre31 : ∀ t, Steps p.tables e below (T21.setTop (mkF m 117 #[.val (.long vs), .second, .val (.long vt_), .second, .val (.int vlens), .val (.int vssid), .val (.int vpick), .val (.int xa0), .val (.int xa1), .val (.int xa2), .val (.int xa3), .val (.int xa4), .val (.int xa5), .val (.int (if (vpick &&& (1 : Int32)) = (0 : Int32) then (own_ch vt_ (0 : Int32)) else xa0)), .val (.int (if (vpick &&& (2 : Int32)) = (0 : Int32) then (own_ch vt_ (1 : Int32)) else xa1)), .val (.int (if (vpick &&& (4 : Int32)) = (0 : Int32) then (own_ch vt_ (2 : Int32)) else xa2)), .unset, .unset, .unset, .unset, .unset, .unset, .unset, .unset, .unset, .unset, .unset, .unset, .unset, .unset] [(.int xa3)])) t → Steps p.tables e below (s₁.setTop (entryFrame m #[(.long vs), (.long vt_), (.int vlens), (.int vssid), (.int vpick)] maxLocals)) t := by
        intro t kt
        refine pre26 t ?_
        show Steps p.tables e below (T21.setTop (mkF m 104 #[.val (.long vs), .second, .val (.long vt_), .second, .val (.int vlens), .val (.int vssid), .val (.int vpick), .val (.int xa0), .val (.int xa1), .val (.int xa2), .val (.int xa3), .val (.int xa4), .val (.int xa5), .val (.int (if (vpick &&& (1 : Int32)) = (0 : Int32) then (own_ch vt_ (0 : Int32)) else xa0)), .val (.int (if (vpick &&& (2 : Int32)) = (0 : Int32) then (own_ch vt_ (1 : Int32)) else xa1)), .val (.int (if (vpick &&& (4 : Int32)) = (0 : Int32) then (own_ch vt_ (2 : Int32)) else xa2)), .unset, .unset, .unset, .unset, .unset, .unset, .unset, .unset, .unset, .unset, .unset, .unset, .unset, .unset] [(.int (vpick &&& (8 : Int32)))])) _
        refine XS.ifNo X21.here hx rfl (hb hby at_104) rfl ((if0 _ _).trans (feq (hc28 : ¬ ((vpick &&& (8 : Int32)) = (0 : Int32)))).1) ?_
        show Steps p.tables e below (T21.setTop (mkF m 107 #[.val (.long vs), .second, .val (.long vt_), .second, .val (.int vlens), .val (.int vssid), .val (.int vpick), .val (.int xa0), .val (.int xa1), .val (.int xa2), .val (.int xa3), .val (.int xa4), .val (.int xa5), .val (.int (if (vpick &&& (1 : Int32)) = (0 : Int32) then (own_ch vt_ (0 : Int32)) else xa0)), .val (.int (if (vpick &&& (2 : Int32)) = (0 : Int32) then (own_ch vt_ (1 : Int32)) else xa1)), .val (.int (if (vpick &&& (4 : Int32)) = (0 : Int32) then (own_ch vt_ (2 : Int32)) else xa2)), .unset, .unset, .unset, .unset, .unset, .unset, .unset, .unset, .unset, .unset, .unset, .unset, .unset, .unset] [])) _
        refine XS.iload X21.here hx rfl (hb hby at_107) rfl ?_
        show Steps p.tables e below (T21.setTop (mkF m 109 #[.val (.long vs), .second, .val (.long vt_), .second, .val (.int vlens), .val (.int vssid), .val (.int vpick), .val (.int xa0), .val (.int xa1), .val (.int xa2), .val (.int xa3), .val (.int xa4), .val (.int xa5), .val (.int (if (vpick &&& (1 : Int32)) = (0 : Int32) then (own_ch vt_ (0 : Int32)) else xa0)), .val (.int (if (vpick &&& (2 : Int32)) = (0 : Int32) then (own_ch vt_ (1 : Int32)) else xa1)), .val (.int (if (vpick &&& (4 : Int32)) = (0 : Int32) then (own_ch vt_ (2 : Int32)) else xa2)), .unset, .unset, .unset, .unset, .unset, .unset, .unset, .unset, .unset, .unset, .unset, .unset, .unset, .unset] [(.int xa3)])) _
        refine XS.goto X21.here hx rfl (pc0 := 109) (pc' := 117) rfl (hb hby at_109) (by decide) (by decide) ?_
        exact kt
      exact ⟨T21, _, X21, e21, N21, fun t kt => by
        simp only [if_neg hc28] at kt
        exact pre31 t kt⟩
  have pre32 : ∀ t, Steps p.tables e below (T27.setTop (mkF m 124 #[.val (.long vs), .second, .val (.long vt_), .second, .val (.int vlens), .val (.int vssid), .val (.int vpick), .val (.int xa0), .val (.int xa1), .val (.int xa2), .val (.int xa3), .val (.int xa4), .val (.int xa5), .val (.int (if (vpick &&& (1 : Int32)) = (0 : Int32) then (own_ch vt_ (0 : Int32)) else xa0)), .val (.int (if (vpick &&& (2 : Int32)) = (0 : Int32) then (own_ch vt_ (1 : Int32)) else xa1)), .val (.int (if (vpick &&& (4 : Int32)) = (0 : Int32) then (own_ch vt_ (2 : Int32)) else xa2)), .val (.int (if (vpick &&& (8 : Int32)) = (0 : Int32) then (own_ch vt_ (3 : Int32)) else xa3)), .unset, .unset, .unset, .unset, .unset, .unset, .unset, .unset, .unset, .unset, .unset, .unset, .unset] [(.int (vpick &&& (16 : Int32)))])) t → Steps p.tables e below (s₁.setTop (entryFrame m #[(.long vs), (.long vt_), (.int vlens), (.int vssid), (.int vpick)] maxLocals)) t := by
    intro t kt
    refine pre27 t ?_
    show Steps p.tables e below (T27.setTop (mkF m 117 #[.val (.long vs), .second, .val (.long vt_), .second, .val (.int vlens), .val (.int vssid), .val (.int vpick), .val (.int xa0), .val (.int xa1), .val (.int xa2), .val (.int xa3), .val (.int xa4), .val (.int xa5), .val (.int (if (vpick &&& (1 : Int32)) = (0 : Int32) then (own_ch vt_ (0 : Int32)) else xa0)), .val (.int (if (vpick &&& (2 : Int32)) = (0 : Int32) then (own_ch vt_ (1 : Int32)) else xa1)), .val (.int (if (vpick &&& (4 : Int32)) = (0 : Int32) then (own_ch vt_ (2 : Int32)) else xa2)), .unset, .unset, .unset, .unset, .unset, .unset, .unset, .unset, .unset, .unset, .unset, .unset, .unset, .unset] [(.int (if (vpick &&& (8 : Int32)) = (0 : Int32) then (own_ch vt_ (3 : Int32)) else xa3))])) _
    refine XS.istore X27.here hx rfl (hb hby at_117) rfl (l' := #[.val (.long vs), .second, .val (.long vt_), .second, .val (.int vlens), .val (.int vssid), .val (.int vpick), .val (.int xa0), .val (.int xa1), .val (.int xa2), .val (.int xa3), .val (.int xa4), .val (.int xa5), .val (.int (if (vpick &&& (1 : Int32)) = (0 : Int32) then (own_ch vt_ (0 : Int32)) else xa0)), .val (.int (if (vpick &&& (2 : Int32)) = (0 : Int32) then (own_ch vt_ (1 : Int32)) else xa1)), .val (.int (if (vpick &&& (4 : Int32)) = (0 : Int32) then (own_ch vt_ (2 : Int32)) else xa2)), .val (.int (if (vpick &&& (8 : Int32)) = (0 : Int32) then (own_ch vt_ (3 : Int32)) else xa3)), .unset, .unset, .unset, .unset, .unset, .unset, .unset, .unset, .unset, .unset, .unset, .unset, .unset]) rfl ?_
    show Steps p.tables e below (T27.setTop (mkF m 119 #[.val (.long vs), .second, .val (.long vt_), .second, .val (.int vlens), .val (.int vssid), .val (.int vpick), .val (.int xa0), .val (.int xa1), .val (.int xa2), .val (.int xa3), .val (.int xa4), .val (.int xa5), .val (.int (if (vpick &&& (1 : Int32)) = (0 : Int32) then (own_ch vt_ (0 : Int32)) else xa0)), .val (.int (if (vpick &&& (2 : Int32)) = (0 : Int32) then (own_ch vt_ (1 : Int32)) else xa1)), .val (.int (if (vpick &&& (4 : Int32)) = (0 : Int32) then (own_ch vt_ (2 : Int32)) else xa2)), .val (.int (if (vpick &&& (8 : Int32)) = (0 : Int32) then (own_ch vt_ (3 : Int32)) else xa3)), .unset, .unset, .unset, .unset, .unset, .unset, .unset, .unset, .unset, .unset, .unset, .unset, .unset] [])) _
    refine XS.iload X27.here hx rfl (hb hby at_119) rfl ?_
    show Steps p.tables e below (T27.setTop (mkF m 121 #[.val (.long vs), .second, .val (.long vt_), .second, .val (.int vlens), .val (.int vssid), .val (.int vpick), .val (.int xa0), .val (.int xa1), .val (.int xa2), .val (.int xa3), .val (.int xa4), .val (.int xa5), .val (.int (if (vpick &&& (1 : Int32)) = (0 : Int32) then (own_ch vt_ (0 : Int32)) else xa0)), .val (.int (if (vpick &&& (2 : Int32)) = (0 : Int32) then (own_ch vt_ (1 : Int32)) else xa1)), .val (.int (if (vpick &&& (4 : Int32)) = (0 : Int32) then (own_ch vt_ (2 : Int32)) else xa2)), .val (.int (if (vpick &&& (8 : Int32)) = (0 : Int32) then (own_ch vt_ (3 : Int32)) else xa3)), .unset, .unset, .unset, .unset, .unset, .unset, .unset, .unset, .unset, .unset, .unset, .unset, .unset] [(.int vpick)])) _
    refine XS.bipush X27.here hx rfl (hb hby at_121) ?_
    show Steps p.tables e below (T27.setTop (mkF m 123 #[.val (.long vs), .second, .val (.long vt_), .second, .val (.int vlens), .val (.int vssid), .val (.int vpick), .val (.int xa0), .val (.int xa1), .val (.int xa2), .val (.int xa3), .val (.int xa4), .val (.int xa5), .val (.int (if (vpick &&& (1 : Int32)) = (0 : Int32) then (own_ch vt_ (0 : Int32)) else xa0)), .val (.int (if (vpick &&& (2 : Int32)) = (0 : Int32) then (own_ch vt_ (1 : Int32)) else xa1)), .val (.int (if (vpick &&& (4 : Int32)) = (0 : Int32) then (own_ch vt_ (2 : Int32)) else xa2)), .val (.int (if (vpick &&& (8 : Int32)) = (0 : Int32) then (own_ch vt_ (3 : Int32)) else xa3)), .unset, .unset, .unset, .unset, .unset, .unset, .unset, .unset, .unset, .unset, .unset, .unset, .unset] [(.int (16 : Int32)), (.int vpick)])) _
    refine XS.iand X27.here hx rfl (hb hby at_123) rfl ?_
    exact kt
  obtain ⟨T33, L33, X33, e33, N33, pre33⟩ : ∃ (Tm : State) (Lm : List Loc), Stand p l e room_1 s m #[(.long vs), (.long vt_), (.int vlens), (.int vssid), (.int vpick)] below meth c Tm Lm 0 0 ∧ Tm.heap = h0 ∧ Fr n0 Lm ∧ ∀ t, Steps p.tables e below (Tm.setTop (mkF m 137 #[.val (.long vs), .second, .val (.long vt_), .second, .val (.int vlens), .val (.int vssid), .val (.int vpick), .val (.int xa0), .val (.int xa1), .val (.int xa2), .val (.int xa3), .val (.int xa4), .val (.int xa5), .val (.int (if (vpick &&& (1 : Int32)) = (0 : Int32) then (own_ch vt_ (0 : Int32)) else xa0)), .val (.int (if (vpick &&& (2 : Int32)) = (0 : Int32) then (own_ch vt_ (1 : Int32)) else xa1)), .val (.int (if (vpick &&& (4 : Int32)) = (0 : Int32) then (own_ch vt_ (2 : Int32)) else xa2)), .val (.int (if (vpick &&& (8 : Int32)) = (0 : Int32) then (own_ch vt_ (3 : Int32)) else xa3)), .unset, .unset, .unset, .unset, .unset, .unset, .unset, .unset, .unset, .unset, .unset, .unset, .unset] [(.int (if (vpick &&& (16 : Int32)) = (0 : Int32) then (own_ch vt_ (4 : Int32)) else xa4))])) t → Steps p.tables e below (s₁.setTop (entryFrame m #[(.long vs), (.long vt_), (.int vlens), (.int vssid), (.int vpick)] maxLocals)) t := by
    by_cases hc34 : (vpick &&& (16 : Int32)) = (0 : Int32)
    ·
      obtain ⟨_, _, ⟨T35, L35, k35, n35⟩, -, X35, ⟨Lc35, hQ35, l35, y35, z35⟩, st35⟩ := Jvm.LawKit.callS X27 hx (y := (⟨"com/example/packet_radio_link/packetradiolink/frame/AddressEqualsPinLaw", "ch", "(JI)C"⟩ : MethodName)) hown (mvT hZ (hw _ (List.mem_of_getElem? (i := 0) rfl))) (mvT hZ (hw _ (List.mem_of_getElem? (i := 1) rfl))) (mvT hZ (hw _ (List.mem_of_getElem? (i := 2) rfl))) (mvT hZ (hw _ (List.mem_of_getElem? (i := 3) rfl))) (by decide) (backOf (W := 0) (rm1 l Z a0 hw [] vt_ (4 : Int32)  h0 n0 Z0 ) hZ (hw _ (List.mem_of_getElem? (i := 3) rfl)) (hw _ (List.mem_of_getElem? (i := 2) rfl)) (by decide) (by decide)) (g := (mkF m 134 #[.val (.long vs), .second, .val (.long vt_), .second, .val (.int vlens), .val (.int vssid), .val (.int vpick), .val (.int xa0), .val (.int xa1), .val (.int xa2), .val (.int xa3), .val (.int xa4), .val (.int xa5), .val (.int (if (vpick &&& (1 : Int32)) = (0 : Int32) then (own_ch vt_ (0 : Int32)) else xa0)), .val (.int (if (vpick &&& (2 : Int32)) = (0 : Int32) then (own_ch vt_ (1 : Int32)) else xa1)), .val (.int (if (vpick &&& (4 : Int32)) = (0 : Int32) then (own_ch vt_ (2 : Int32)) else xa2)), .val (.int (if (vpick &&& (8 : Int32)) = (0 : Int32) then (own_ch vt_ (3 : Int32)) else xa3)), .unset, .unset, .unset, .unset, .unset, .unset, .unset, .unset, .unset, .unset, .unset, .unset, .unset] [(.int (4 : Int32)), (.long vt_)])) rfl (by rw [hml]; rfl) (argsL := [(.long vt_), (.int (4 : Int32))]) (rest := []) (lenOf pd_6 rfl) rfl (by show 2 * 0 + _ ≤ _; exact Nat.le_of_eq rfl) (hb hby at_134) (fun _ _ => ⟨rfl, e27, (by decide : 0 + 0 ≤ _), (by decide : 0 + 0 ≤ _)⟩)
      dsimp only [Pt.U, Pt.locs, Pt.cells, Pt.slots] at X35 l35 y35 z35 st35 hQ35
      subst l35 y35 z35
      obtain ⟨rfl, N35q, e35q⟩ := hQ35
      have N35 := Fr.app N27 N35q
      have pre36 : ∀ t, Steps p.tables e below (T35.setTop (mkF m 137 #[.val (.long vs), .second, .val (.long vt_), .second, .val (.int vlens), .val (.int vssid), .val (.int vpick), .val (.int xa0), .val (.int xa1), .val (.int xa2), .val (.int xa3), .val (.int xa4), .val (.int xa5), .val (.int (if (vpick &&& (1 : Int32)) = (0 : Int32) then (own_ch vt_ (0 : Int32)) else xa0)), .val (.int (if (vpick &&& (2 : Int32)) = (0 : Int32) then (own_ch vt_ (1 : Int32)) else xa1)), .val (.int (if (vpick &&& (4 : Int32)) = (0 : Int32) then (own_ch vt_ (2 : Int32)) else xa2)), .val (.int (if (vpick &&& (8 : Int32)) = (0 : Int32) then (own_ch vt_ (3 : Int32)) else xa3)), .unset, .unset, .unset, .unset, .unset, .unset, .unset, .unset, .unset, .unset, .unset, .unset, .unset] [(.int (own_ch vt_ (4 : Int32)))])) t → Steps p.tables e below (s₁.setTop (entryFrame m #[(.long vs), (.long vt_), (.int vlens), (.int vssid), (.int vpick)] maxLocals)) t := by
        intro t kt
        refine pre32 t ?_
        show Steps p.tables e below (T27.setTop (mkF m 124 #[.val (.long vs), .second, .val (.long vt_), .second, .val (.int vlens), .val (.int vssid), .val (.int vpick), .val (.int xa0), .val (.int xa1), .val (.int xa2), .val (.int xa3), .val (.int xa4), .val (.int xa5), .val (.int (if (vpick &&& (1 : Int32)) = (0 : Int32) then (own_ch vt_ (0 : Int32)) else xa0)), .val (.int (if (vpick &&& (2 : Int32)) = (0 : Int32) then (own_ch vt_ (1 : Int32)) else xa1)), .val (.int (if (vpick &&& (4 : Int32)) = (0 : Int32) then (own_ch vt_ (2 : Int32)) else xa2)), .val (.int (if (vpick &&& (8 : Int32)) = (0 : Int32) then (own_ch vt_ (3 : Int32)) else xa3)), .unset, .unset, .unset, .unset, .unset, .unset, .unset, .unset, .unset, .unset, .unset, .unset, .unset] [(.int (vpick &&& (16 : Int32)))])) _
        refine XS.ifYes X27.here hx rfl (pc0 := 124) (pc' := 132) rfl (hb hby at_124) rfl ((if0 _ _).trans (teq (hc34 : (vpick &&& (16 : Int32)) = (0 : Int32))).1) (by decide) (by decide) ?_
        show Steps p.tables e below (T27.setTop (mkF m 132 #[.val (.long vs), .second, .val (.long vt_), .second, .val (.int vlens), .val (.int vssid), .val (.int vpick), .val (.int xa0), .val (.int xa1), .val (.int xa2), .val (.int xa3), .val (.int xa4), .val (.int xa5), .val (.int (if (vpick &&& (1 : Int32)) = (0 : Int32) then (own_ch vt_ (0 : Int32)) else xa0)), .val (.int (if (vpick &&& (2 : Int32)) = (0 : Int32) then (own_ch vt_ (1 : Int32)) else xa1)), .val (.int (if (vpick &&& (4 : Int32)) = (0 : Int32) then (own_ch vt_ (2 : Int32)) else xa2)), .val (.int (if (vpick &&& (8 : Int32)) = (0 : Int32) then (own_ch vt_ (3 : Int32)) else xa3)), .unset, .unset, .unset, .unset, .unset, .unset, .unset, .unset, .unset, .unset, .unset, .unset, .unset] [])) _
        refine XS.lloadN X27.here hx rfl (hb hby at_132) rfl ?_
        show Steps p.tables e below (T27.setTop (mkF m 133 #[.val (.long vs), .second, .val (.long vt_), .second, .val (.int vlens), .val (.int vssid), .val (.int vpick), .val (.int xa0), .val (.int xa1), .val (.int xa2), .val (.int xa3), .val (.int xa4), .val (.int xa5), .val (.int (if (vpick &&& (1 : Int32)) = (0 : Int32) then (own_ch vt_ (0 : Int32)) else xa0)), .val (.int (if (vpick &&& (2 : Int32)) = (0 : Int32) then (own_ch vt_ (1 : Int32)) else xa1)), .val (.int (if (vpick &&& (4 : Int32)) = (0 : Int32) then (own_ch vt_ (2 : Int32)) else xa2)), .val (.int (if (vpick &&& (8 : Int32)) = (0 : Int32) then (own_ch vt_ (3 : Int32)) else xa3)), .unset, .unset, .unset, .unset, .unset, .unset, .unset, .unset, .unset, .unset, .unset, .unset, .unset] [(.long vt_)])) _
        refine XS.iconst X27.here hx rfl (hb hby at_133) ?_
        show Steps p.tables e below (T27.setTop (mkF m 134 #[.val (.long vs), .second, .val (.long vt_), .second, .val (.int vlens), .val (.int vssid), .val (.int vpick), .val (.int xa0), .val (.int xa1), .val (.int xa2), .val (.int xa3), .val (.int xa4), .val (.int xa5), .val (.int (if (vpick &&& (1 : Int32)) = (0 : Int32) then (own_ch vt_ (0 : Int32)) else xa0)), .val (.int (if (vpick &&& (2 : Int32)) = (0 : Int32) then (own_ch vt_ (1 : Int32)) else xa1)), .val (.int (if (vpick &&& (4 : Int32)) = (0 : Int32) then (own_ch vt_ (2 : Int32)) else xa2)), .val (.int (if (vpick &&& (8 : Int32)) = (0 : Int32) then (own_ch vt_ (3 : Int32)) else xa3)), .unset, .unset, .unset, .unset, .unset, .unset, .unset, .unset, .unset, .unset, .unset, .unset, .unset] [(.int (4 : Int32)), (.long vt_)])) _
        refine st35 _ ?_
        exact kt
      exact ⟨T35, _, X35, e35q, N35, fun t kt => by
        simp only [if_pos hc34] at kt
        exact pre36 t kt⟩
    ·
      have pre37 : ∀ t, Steps p.tables e below (T27.setTop (mkF m 137 #[.val (.long vs), .second, .val (.long vt_), .second, .val (.int vlens), .val (.int vssid), .val (.int vpick), .val (.int xa0), .val (.int xa1), .val (.int xa2), .val (.int xa3), .val (.int xa4), .val (.int xa5), .val (.int (if (vpick &&& (1 : Int32)) = (0 : Int32) then (own_ch vt_ (0 : Int32)) else xa0)), .val (.int (if (vpick &&& (2 : Int32)) = (0 : Int32) then (own_ch vt_ (1 : Int32)) else xa1)), .val (.int (if (vpick &&& (4 : Int32)) = (0 : Int32) then (own_ch vt_ (2 : Int32)) else xa2)), .val (.int (if (vpick &&& (8 : Int32)) = (0 : Int32) then (own_ch vt_ (3 : Int32)) else xa3)), .unset, .unset, .unset, .unset, .unset, .unset, .unset, .unset, .unset, .unset, .unset, .unset, .unset] [(.int xa4)])) t → Steps p.tables e below (s₁.setTop (entryFrame m #[(.long vs), (.long vt_), (.int vlens), (.int vssid), (.int vpick)] maxLocals)) t := by
        intro t kt
        refine pre32 t ?_
        show Steps p.tables e below (T27.setTop (mkF m 124 #[.val (.long vs), .second, .val (.long vt_), .second, .val (.int vlens), .val (.int vssid), .val (.int vpick), .val (.int xa0), .val (.int xa1), .val (.int xa2), .val (.int xa3), .val (.int xa4), .val (.int xa5), .val (.int (if (vpick &&& (1 : Int32)) = (0 : Int32) then (own_ch vt_ (0 : Int32)) else xa0)), .val (.int (if (vpick &&& (2 : Int32)) = (0 : Int32) then (own_ch vt_ (1 : Int32)) else xa1)), .val (.int (if (vpick &&& (4 : Int32)) = (0 : Int32) then (own_ch vt_ (2 : Int32)) else xa2)), .val (.int (if (vpick &&& (8 : Int32)) = (0 : Int32) then (own_ch vt_ (3 : Int32)) else xa3)), .unset, .unset, .unset, .unset, .unset, .unset, .unset, .unset, .unset, .unset, .unset, .unset, .unset] [(.int (vpick &&& (16 : Int32)))])) _
        refine XS.ifNo X27.here hx rfl (hb hby at_124) rfl ((if0 _ _).trans (feq (hc34 : ¬ ((vpick &&& (16 : Int32)) = (0 : Int32)))).1) ?_
        show Steps p.tables e below (T27.setTop (mkF m 127 #[.val (.long vs), .second, .val (.long vt_), .second, .val (.int vlens), .val (.int vssid), .val (.int vpick), .val (.int xa0), .val (.int xa1), .val (.int xa2), .val (.int xa3), .val (.int xa4), .val (.int xa5), .val (.int (if (vpick &&& (1 : Int32)) = (0 : Int32) then (own_ch vt_ (0 : Int32)) else xa0)), .val (.int (if (vpick &&& (2 : Int32)) = (0 : Int32) then (own_ch vt_ (1 : Int32)) else xa1)), .val (.int (if (vpick &&& (4 : Int32)) = (0 : Int32) then (own_ch vt_ (2 : Int32)) else xa2)), .val (.int (if (vpick &&& (8 : Int32)) = (0 : Int32) then (own_ch vt_ (3 : Int32)) else xa3)), .unset, .unset, .unset, .unset, .unset, .unset, .unset, .unset, .unset, .unset, .unset, .unset, .unset] [])) _
        refine XS.iload X27.here hx rfl (hb hby at_127) rfl ?_
        show Steps p.tables e below (T27.setTop (mkF m 129 #[.val (.long vs), .second, .val (.long vt_), .second, .val (.int vlens), .val (.int vssid), .val (.int vpick), .val (.int xa0), .val (.int xa1), .val (.int xa2), .val (.int xa3), .val (.int xa4), .val (.int xa5), .val (.int (if (vpick &&& (1 : Int32)) = (0 : Int32) then (own_ch vt_ (0 : Int32)) else xa0)), .val (.int (if (vpick &&& (2 : Int32)) = (0 : Int32) then (own_ch vt_ (1 : Int32)) else xa1)), .val (.int (if (vpick &&& (4 : Int32)) = (0 : Int32) then (own_ch vt_ (2 : Int32)) else xa2)), .val (.int (if (vpick &&& (8 : Int32)) = (0 : Int32) then (own_ch vt_ (3 : Int32)) else xa3)), .unset, .unset, .unset, .unset, .unset, .unset, .unset, .unset, .unset, .unset, .unset, .unset, .unset] [(.int xa4)])) _
        refine XS.goto X27.here hx rfl (pc0 := 129) (pc' := 137) rfl (hb hby at_129) (by decide) (by decide) ?_
        exact kt
      exact ⟨T27, _, X27, e27, N27, fun t kt => by
        simp only [if_neg hc34] at kt
        exact pre37 t kt⟩
  have pre38 : ∀ t, Steps p.tables e below (T33.setTop (mkF m 144 #[.val (.long vs), .second, .val (.long vt_), .second, .val (.int vlens), .val (.int vssid), .val (.int vpick), .val (.int xa0), .val (.int xa1), .val (.int xa2), .val (.int xa3), .val (.int xa4), .val (.int xa5), .val (.int (if (vpick &&& (1 : Int32)) = (0 : Int32) then (own_ch vt_ (0 : Int32)) else xa0)), .val (.int (if (vpick &&& (2 : Int32)) = (0 : Int32) then (own_ch vt_ (1 : Int32)) else xa1)), .val (.int (if (vpick &&& (4 : Int32)) = (0 : Int32) then (own_ch vt_ (2 : Int32)) else xa2)), .val (.int (if (vpick &&& (8 : Int32)) = (0 : Int32) then (own_ch vt_ (3 : Int32)) else xa3)), .val (.int (if (vpick &&& (16 : Int32)) = (0 : Int32) then (own_ch vt_ (4 : Int32)) else xa4)), .unset, .unset, .unset, .unset, .unset, .unset, .unset, .unset, .unset, .unset, .unset, .unset] [(.int (vpick &&& (32 : Int32)))])) t → Steps p.tables e below (s₁.setTop (entryFrame m #[(.long vs), (.long vt_), (.int vlens), (.int vssid), (.int vpick)] maxLocals)) t := by
    intro t kt
    refine pre33 t ?_
    show Steps p.tables e below (T33.setTop (mkF m 137 #[.val (.long vs), .second, .val (.long vt_), .second, .val (.int vlens), .val (.int vssid), .val (.int vpick), .val (.int xa0), .val (.int xa1), .val (.int xa2), .val (.int xa3), .val (.int xa4), .val (.int xa5), .val (.int (if (vpick &&& (1 : Int32)) = (0 : Int32) then (own_ch vt_ (0 : Int32)) else xa0)), .val (.int (if (vpick &&& (2 : Int32)) = (0 : Int32) then (own_ch vt_ (1 : Int32)) else xa1)), .val (.int (if (vpick &&& (4 : Int32)) = (0 : Int32) then (own_ch vt_ (2 : Int32)) else xa2)), .val (.int (if (vpick &&& (8 : Int32)) = (0 : Int32) then (own_ch vt_ (3 : Int32)) else xa3)), .unset, .unset, .unset, .unset, .unset, .unset, .unset, .unset, .unset, .unset, .unset, .unset, .unset] [(.int (if (vpick &&& (16 : Int32)) = (0 : Int32) then (own_ch vt_ (4 : Int32)) else xa4))])) _
    refine XS.istore X33.here hx rfl (hb hby at_137) rfl (l' := #[.val (.long vs), .second, .val (.long vt_), .second, .val (.int vlens), .val (.int vssid), .val (.int vpick), .val (.int xa0), .val (.int xa1), .val (.int xa2), .val (.int xa3), .val (.int xa4), .val (.int xa5), .val (.int (if (vpick &&& (1 : Int32)) = (0 : Int32) then (own_ch vt_ (0 : Int32)) else xa0)), .val (.int (if (vpick &&& (2 : Int32)) = (0 : Int32) then (own_ch vt_ (1 : Int32)) else xa1)), .val (.int (if (vpick &&& (4 : Int32)) = (0 : Int32) then (own_ch vt_ (2 : Int32)) else xa2)), .val (.int (if (vpick &&& (8 : Int32)) = (0 : Int32) then (own_ch vt_ (3 : Int32)) else xa3)), .val (.int (if (vpick &&& (16 : Int32)) = (0 : Int32) then (own_ch vt_ (4 : Int32)) else xa4)), .unset, .unset, .unset, .unset, .unset, .unset, .unset, .unset, .unset, .unset, .unset, .unset]) rfl ?_
    show Steps p.tables e below (T33.setTop (mkF m 139 #[.val (.long vs), .second, .val (.long vt_), .second, .val (.int vlens), .val (.int vssid), .val (.int vpick), .val (.int xa0), .val (.int xa1), .val (.int xa2), .val (.int xa3), .val (.int xa4), .val (.int xa5), .val (.int (if (vpick &&& (1 : Int32)) = (0 : Int32) then (own_ch vt_ (0 : Int32)) else xa0)), .val (.int (if (vpick &&& (2 : Int32)) = (0 : Int32) then (own_ch vt_ (1 : Int32)) else xa1)), .val (.int (if (vpick &&& (4 : Int32)) = (0 : Int32) then (own_ch vt_ (2 : Int32)) else xa2)), .val (.int (if (vpick &&& (8 : Int32)) = (0 : Int32) then (own_ch vt_ (3 : Int32)) else xa3)), .val (.int (if (vpick &&& (16 : Int32)) = (0 : Int32) then (own_ch vt_ (4 : Int32)) else xa4)), .unset, .unset, .unset, .unset, .unset, .unset, .unset, .unset, .unset, .unset, .unset, .unset] [])) _
    refine XS.iload X33.here hx rfl (hb hby at_139) rfl ?_
    show Steps p.tables e below (T33.setTop (mkF m 141 #[.val (.long vs), .second, .val (.long vt_), .second, .val (.int vlens), .val (.int vssid), .val (.int vpick), .val (.int xa0), .val (.int xa1), .val (.int xa2), .val (.int xa3), .val (.int xa4), .val (.int xa5), .val (.int (if (vpick &&& (1 : Int32)) = (0 : Int32) then (own_ch vt_ (0 : Int32)) else xa0)), .val (.int (if (vpick &&& (2 : Int32)) = (0 : Int32) then (own_ch vt_ (1 : Int32)) else xa1)), .val (.int (if (vpick &&& (4 : Int32)) = (0 : Int32) then (own_ch vt_ (2 : Int32)) else xa2)), .val (.int (if (vpick &&& (8 : Int32)) = (0 : Int32) then (own_ch vt_ (3 : Int32)) else xa3)), .val (.int (if (vpick &&& (16 : Int32)) = (0 : Int32) then (own_ch vt_ (4 : Int32)) else xa4)), .unset, .unset, .unset, .unset, .unset, .unset, .unset, .unset, .unset, .unset, .unset, .unset] [(.int vpick)])) _
    refine XS.bipush X33.here hx rfl (hb hby at_141) ?_
    show Steps p.tables e below (T33.setTop (mkF m 143 #[.val (.long vs), .second, .val (.long vt_), .second, .val (.int vlens), .val (.int vssid), .val (.int vpick), .val (.int xa0), .val (.int xa1), .val (.int xa2), .val (.int xa3), .val (.int xa4), .val (.int xa5), .val (.int (if (vpick &&& (1 : Int32)) = (0 : Int32) then (own_ch vt_ (0 : Int32)) else xa0)), .val (.int (if (vpick &&& (2 : Int32)) = (0 : Int32) then (own_ch vt_ (1 : Int32)) else xa1)), .val (.int (if (vpick &&& (4 : Int32)) = (0 : Int32) then (own_ch vt_ (2 : Int32)) else xa2)), .val (.int (if (vpick &&& (8 : Int32)) = (0 : Int32) then (own_ch vt_ (3 : Int32)) else xa3)), .val (.int (if (vpick &&& (16 : Int32)) = (0 : Int32) then (own_ch vt_ (4 : Int32)) else xa4)), .unset, .unset, .unset, .unset, .unset, .unset, .unset, .unset, .unset, .unset, .unset, .unset] [(.int (32 : Int32)), (.int vpick)])) _
    refine XS.iand X33.here hx rfl (hb hby at_143) rfl ?_
    exact kt
  obtain ⟨T39, L39, X39, e39, N39, pre39⟩ : ∃ (Tm : State) (Lm : List Loc), Stand p l e room_1 s m #[(.long vs), (.long vt_), (.int vlens), (.int vssid), (.int vpick)] below meth c Tm Lm 0 0 ∧ Tm.heap = h0 ∧ Fr n0 Lm ∧ ∀ t, Steps p.tables e below (Tm.setTop (mkF m 157 #[.val (.long vs), .second, .val (.long vt_), .second, .val (.int vlens), .val (.int vssid), .val (.int vpick), .val (.int xa0), .val (.int xa1), .val (.int xa2), .val (.int xa3), .val (.int xa4), .val (.int xa5), .val (.int (if (vpick &&& (1 : Int32)) = (0 : Int32) then (own_ch vt_ (0 : Int32)) else xa0)), .val (.int (if (vpick &&& (2 : Int32)) = (0 : Int32) then (own_ch vt_ (1 : Int32)) else xa1)), .val (.int (if (vpick &&& (4 : Int32)) = (0 : Int32) then (own_ch vt_ (2 : Int32)) else xa2)), .val (.int (if (vpick &&& (8 : Int32)) = (0 : Int32) then (own_ch vt_ (3 : Int32)) else xa3)), .val (.int (if (vpick &&& (16 : Int32)) = (0 : Int32) then (own_ch vt_ (4 : Int32)) else xa4)), .unset, .unset, .unset, .unset, .unset, .unset, .unset, .unset, .unset, .unset, .unset, .unset] [(.int (if (vpick &&& (32 : Int32)) = (0 : Int32) then (own_ch vt_ (5 : Int32)) else xa5))])) t → Steps p.tables e below (s₁.setTop (entryFrame m #[(.long vs), (.long vt_), (.int vlens), (.int vssid), (.int vpick)] maxLocals)) t := by
    by_cases hc40 : (vpick &&& (32 : Int32)) = (0 : Int32)
    ·
      obtain ⟨_, _, ⟨T41, L41, k41, n41⟩, -, X41, ⟨Lc41, hQ41, l41, y41, z41⟩, st41⟩ := Jvm.LawKit.callS X33 hx (y := (⟨"com/example/packet_radio_link/packetradiolink/frame/AddressEqualsPinLaw", "ch", "(JI)C"⟩ : MethodName)) hown (mvT hZ (hw _ (List.mem_of_getElem? (i := 0) rfl))) (mvT hZ (hw _ (List.mem_of_getElem? (i := 1) rfl))) (mvT hZ (hw _ (List.mem_of_getElem? (i := 2) rfl))) (mvT hZ (hw _ (List.mem_of_getElem? (i := 3) rfl))) (by decide) (backOf (W := 0) (rm1 l Z a0 hw [] vt_ (5 : Int32)  h0 n0 Z0 ) hZ (hw _ (List.mem_of_getElem? (i := 3) rfl)) (hw _ (List.mem_of_getElem? (i := 2) rfl)) (by decide) (by decide)) (g := (mkF m 154 #[.val (.long vs), .second, .val (.long vt_), .second, .val (.int vlens), .val (.int vssid), .val (.int vpick), .val (.int xa0), .val (.int xa1), .val (.int xa2), .val (.int xa3), .val (.int xa4), .val (.int xa5), .val (.int (if (vpick &&& (1 : Int32)) = (0 : Int32) then (own_ch vt_ (0 : Int32)) else xa0)), .val (.int (if (vpick &&& (2 : Int32)) = (0 : Int32) then (own_ch vt_ (1 : Int32)) else xa1)), .val (.int (if (vpick &&& (4 : Int32)) = (0 : Int32) then (own_ch vt_ (2 : Int32)) else xa2)), .val (.int (if (vpick &&& (8 : Int32)) = (0 : Int32) then (own_ch vt_ (3 : Int32)) else xa3)), .val (.int (if (vpick &&& (16 : Int32)) = (0 : Int32) then (own_ch vt_ (4 : Int32)) else xa4)), .unset, .unset, .unset, .unset, .unset, .unset, .unset, .unset, .unset, .unset, .unset, .unset] [(.int (5 : Int32)), (.long vt_)])) rfl (by rw [hml]; rfl) (argsL := [(.long vt_), (.int (5 : Int32))]) (rest := []) (lenOf pd_6 rfl) rfl (by show 2 * 0 + _ ≤ _; exact Nat.le_of_eq rfl) (hb hby at_154) (fun _ _ => ⟨rfl, e33, (by decide : 0 + 0 ≤ _), (by decide : 0 + 0 ≤ _)⟩)
      dsimp only [Pt.U, Pt.locs, Pt.cells, Pt.slots] at X41 l41 y41 z41 st41 hQ41
      subst l41 y41 z41
      obtain ⟨rfl, N41q, e41q⟩ := hQ41
      have N41 := Fr.app N33 N41q
      have pre42 : ∀ t, Steps p.tables e below (T41.setTop (mkF m 157 #[.val (.long vs), .second, .val (.long vt_), .second, .val (.int vlens), .val (.int vssid), .val (.int vpick), .val (.int xa0), .val (.int xa1), .val (.int xa2), .val (.int xa3), .val (.int xa4), .val (.int xa5), .val (.int (if (vpick &&& (1 : Int32)) = (0 : Int32) then (own_ch vt_ (0 : Int32)) else xa0)), .val (.int (if (vpick &&& (2 : Int32)) = (0 : Int32) then (own_ch vt_ (1 : Int32)) else xa1)), .val (.int (if (vpick &&& (4 : Int32)) = (0 : Int32) then (own_ch vt_ (2 : Int32)) else xa2)), .val (.int (if (vpick &&& (8 : Int32)) = (0 : Int32) then (own_ch vt_ (3 : Int32)) else xa3)), .val (.int (if (vpick &&& (16 : Int32)) = (0 : Int32) then (own_ch vt_ (4 : Int32)) else xa4)), .unset, .unset, .unset, .unset, .unset, .unset, .unset, .unset, .unset, .unset, .unset, .unset] [(.int (own_ch vt_ (5 : Int32)))])) t → Steps p.tables e below (s₁.setTop (entryFrame m #[(.long vs), (.long vt_), (.int vlens), (.int vssid), (.int vpick)] maxLocals)) t := by
        intro t kt
        refine pre38 t ?_
        show Steps p.tables e below (T33.setTop (mkF m 144 #[.val (.long vs), .second, .val (.long vt_), .second, .val (.int vlens), .val (.int vssid), .val (.int vpick), .val (.int xa0), .val (.int xa1), .val (.int xa2), .val (.int xa3), .val (.int xa4), .val (.int xa5), .val (.int (if (vpick &&& (1 : Int32)) = (0 : Int32) then (own_ch vt_ (0 : Int32)) else xa0)), .val (.int (if (vpick &&& (2 : Int32)) = (0 : Int32) then (own_ch vt_ (1 : Int32)) else xa1)), .val (.int (if (vpick &&& (4 : Int32)) = (0 : Int32) then (own_ch vt_ (2 : Int32)) else xa2)), .val (.int (if (vpick &&& (8 : Int32)) = (0 : Int32) then (own_ch vt_ (3 : Int32)) else xa3)), .val (.int (if (vpick &&& (16 : Int32)) = (0 : Int32) then (own_ch vt_ (4 : Int32)) else xa4)), .unset, .unset, .unset, .unset, .unset, .unset, .unset, .unset, .unset, .unset, .unset, .unset] [(.int (vpick &&& (32 : Int32)))])) _
        refine XS.ifYes X33.here hx rfl (pc0 := 144) (pc' := 152) rfl (hb hby at_144) rfl ((if0 _ _).trans (teq (hc40 : (vpick &&& (32 : Int32)) = (0 : Int32))).1) (by decide) (by decide) ?_
        show Steps p.tables e below (T33.setTop (mkF m 152 #[.val (.long vs), .second, .val (.long vt_), .second, .val (.int vlens), .val (.int vssid), .val (.int vpick), .val (.int xa0), .val (.int xa1), .val (.int xa2), .val (.int xa3), .val (.int xa4), .val (.int xa5), .val (.int (if (vpick &&& (1 : Int32)) = (0 : Int32) then (own_ch vt_ (0 : Int32)) else xa0)), .val (.int (if (vpick &&& (2 : Int32)) = (0 : Int32) then (own_ch vt_ (1 : Int32)) else xa1)), .val (.int (if (vpick &&& (4 : Int32)) = (0 : Int32) then (own_ch vt_ (2 : Int32)) else xa2)), .val (.int (if (vpick &&& (8 : Int32)) = (0 : Int32) then (own_ch vt_ (3 : Int32)) else xa3)), .val (.int (if (vpick &&& (16 : Int32)) = (0 : Int32) then (own_ch vt_ (4 : Int32)) else xa4)), .unset, .unset, .unset, .unset, .unset, .unset, .unset, .unset, .unset, .unset, .unset, .unset] [])) _
        refine XS.lloadN X33.here hx rfl (hb hby at_152) rfl ?_
        show Steps p.tables e below (T33.setTop (mkF m 153 #[.val (.long vs), .second, .val (.long vt_), .second, .val (.int vlens), .val (.int vssid), .val (.int vpick), .val (.int xa0), .val (.int xa1), .val (.int xa2), .val (.int xa3), .val (.int xa4), .val (.int xa5), .val (.int (if (vpick &&& (1 : Int32)) = (0 : Int32) then (own_ch vt_ (0 : Int32)) else xa0)), .val (.int (if (vpick &&& (2 : Int32)) = (0 : Int32) then (own_ch vt_ (1 : Int32)) else xa1)), .val (.int (if (vpick &&& (4 : Int32)) = (0 : Int32) then (own_ch vt_ (2 : Int32)) else xa2)), .val (.int (if (vpick &&& (8 : Int32)) = (0 : Int32) then (own_ch vt_ (3 : Int32)) else xa3)), .val (.int (if (vpick &&& (16 : Int32)) = (0 : Int32) then (own_ch vt_ (4 : Int32)) else xa4)), .unset, .unset, .unset, .unset, .unset, .unset, .unset, .unset, .unset, .unset, .unset, .unset] [(.long vt_)])) _
        refine XS.iconst X33.here hx rfl (hb hby at_153) ?_
        show Steps p.tables e below (T33.setTop (mkF m 154 #[.val (.long vs), .second, .val (.long vt_), .second, .val (.int vlens), .val (.int vssid), .val (.int vpick), .val (.int xa0), .val (.int xa1), .val (.int xa2), .val (.int xa3), .val (.int xa4), .val (.int xa5), .val (.int (if (vpick &&& (1 : Int32)) = (0 : Int32) then (own_ch vt_ (0 : Int32)) else xa0)), .val (.int (if (vpick &&& (2 : Int32)) = (0 : Int32) then (own_ch vt_ (1 : Int32)) else xa1)), .val (.int (if (vpick &&& (4 : Int32)) = (0 : Int32) then (own_ch vt_ (2 : Int32)) else xa2)), .val (.int (if (vpick &&& (8 : Int32)) = (0 : Int32) then (own_ch vt_ (3 : Int32)) else xa3)), .val (.int (if (vpick &&& (16 : Int32)) = (0 : Int32) then (own_ch vt_ (4 : Int32)) else xa4)), .unset, .unset, .unset, .unset, .unset, .unset, .unset, .unset, .unset, .unset, .unset, .unset] [(.int (5 : Int32)), (.long vt_)])) _
        refine st41 _ ?_
        exact kt
      exact ⟨T41, _, X41, e41q, N41, fun t kt => by
        simp only [if_pos hc40] at kt
        exact pre42 t kt⟩
    ·
      have pre43 : ∀ t, Steps p.tables e below (T33.setTop (mkF m 157 #[.val (.long vs), .second, .val (.long vt_), .second, .val (.int vlens), .val (.int vssid), .val (.int vpick), .val (.int xa0), .val (.int xa1), .val (.int xa2), .val (.int xa3), .val (.int xa4), .val (.int xa5), .val (.int (if (vpick &&& (1 : Int32)) = (0 : Int32) then (own_ch vt_ (0 : Int32)) else xa0)), .val (.int (if (vpick &&& (2 : Int32)) = (0 : Int32) then (own_ch vt_ (1 : Int32)) else xa1)), .val (.int (if (vpick &&& (4 : Int32)) = (0 : Int32) then (own_ch vt_ (2 : Int32)) else xa2)), .val (.int (if (vpick &&& (8 : Int32)) = (0 : Int32) then (own_ch vt_ (3 : Int32)) else xa3)), .val (.int (if (vpick &&& (16 : Int32)) = (0 : Int32) then (own_ch vt_ (4 : Int32)) else xa4)), .unset, .unset, .unset, .unset, .unset, .unset, .unset, .unset, .unset, .unset, .unset, .unset] [(.int xa5)])) t → Steps p.tables e below (s₁.setTop (entryFrame m #[(.long vs), (.long vt_), (.int vlens), (.int vssid), (.int vpick)] maxLocals)) t := by
        intro t kt
        refine pre38 t ?_
        show Steps p.tables e below (T33.setTop (mkF m 144 #[.val (.long vs), .second, .val (.long vt_), .second, .val (.int vlens), .val (.int vssid), .val (.int vpick), .val (.int xa0), .val (.int xa1), .val (.int xa2), .val (.int xa3), .val (.int xa4), .val (.int xa5), .val (.int (if (vpick &&& (1 : Int32)) = (0 : Int32) then (own_ch vt_ (0 : Int32)) else xa0)), .val (.int (if (vpick &&& (2 : Int32)) = (0 : Int32) then (own_ch vt_ (1 : Int32)) else xa1)), .val (.int (if (vpick &&& (4 : Int32)) = (0 : Int32) then (own_ch vt_ (2 : Int32)) else xa2)), .val (.int (if (vpick &&& (8 : Int32)) = (0 : Int32) then (own_ch vt_ (3 : Int32)) else xa3)), .val (.int (if (vpick &&& (16 : Int32)) = (0 : Int32) then (own_ch vt_ (4 : Int32)) else xa4)), .unset, .unset, .unset, .unset, .unset, .unset, .unset, .unset, .unset, .unset, .unset, .unset] [(.int (vpick &&& (32 : Int32)))])) _
        refine XS.ifNo X33.here hx rfl (hb hby at_144) rfl ((if0 _ _).trans (feq (hc40 : ¬ ((vpick &&& (32 : Int32)) = (0 : Int32)))).1) ?_
        show Steps p.tables e below (T33.setTop (mkF m 147 #[.val (.long vs), .second, .val (.long vt_), .second, .val (.int vlens), .val (.int vssid), .val (.int vpick), .val (.int xa0), .val (.int xa1), .val (.int xa2), .val (.int xa3), .val (.int xa4), .val (.int xa5), .val (.int (if (vpick &&& (1 : Int32)) = (0 : Int32) then (own_ch vt_ (0 : Int32)) else xa0)), .val (.int (if (vpick &&& (2 : Int32)) = (0 : Int32) then (own_ch vt_ (1 : Int32)) else xa1)), .val (.int (if (vpick &&& (4 : Int32)) = (0 : Int32) then (own_ch vt_ (2 : Int32)) else xa2)), .val (.int (if (vpick &&& (8 : Int32)) = (0 : Int32) then (own_ch vt_ (3 : Int32)) else xa3)), .val (.int (if (vpick &&& (16 : Int32)) = (0 : Int32) then (own_ch vt_ (4 : Int32)) else xa4)), .unset, .unset, .unset, .unset, .unset, .unset, .unset, .unset, .unset, .unset, .unset, .unset] [])) _
        refine XS.iload X33.here hx rfl (hb hby at_147) rfl ?_
        show Steps p.tables e below (T33.setTop (mkF m 149 #[.val (.long vs), .second, .val (.long vt_), .second, .val (.int vlens), .val (.int vssid), .val (.int vpick), .val (.int xa0), .val (.int xa1), .val (.int xa2), .val (.int xa3), .val (.int xa4), .val (.int xa5), .val (.int (if (vpick &&& (1 : Int32)) = (0 : Int32) then (own_ch vt_ (0 : Int32)) else xa0)), .val (.int (if (vpick &&& (2 : Int32)) = (0 : Int32) then (own_ch vt_ (1 : Int32)) else xa1)), .val (.int (if (vpick &&& (4 : Int32)) = (0 : Int32) then (own_ch vt_ (2 : Int32)) else xa2)), .val (.int (if (vpick &&& (8 : Int32)) = (0 : Int32) then (own_ch vt_ (3 : Int32)) else xa3)), .val (.int (if (vpick &&& (16 : Int32)) = (0 : Int32) then (own_ch vt_ (4 : Int32)) else xa4)), .unset, .unset, .unset, .unset, .unset, .unset, .unset, .unset, .unset, .unset, .unset, .unset] [(.int xa5)])) _
        refine XS.goto X33.here hx rfl (pc0 := 149) (pc' := 157) rfl (hb hby at_149) (by decide) (by decide) ?_
        exact kt
      exact ⟨T33, _, X33, e33, N33, fun t kt => by
        simp only [if_neg hc40] at kt
        exact pre43 t kt⟩
  have pre44 : ∀ t, Steps p.tables e below (T39.setTop (mkF m 159 #[.val (.long vs), .second, .val (.long vt_), .second, .val (.int vlens), .val (.int vssid), .val (.int vpick), .val (.int xa0), .val (.int xa1), .val (.int xa2), .val (.int xa3), .val (.int xa4), .val (.int xa5), .val (.int (if (vpick &&& (1 : Int32)) = (0 : Int32) then (own_ch vt_ (0 : Int32)) else xa0)), .val (.int (if (vpick &&& (2 : Int32)) = (0 : Int32) then (own_ch vt_ (1 : Int32)) else xa1)), .val (.int (if (vpick &&& (4 : Int32)) = (0 : Int32) then (own_ch vt_ (2 : Int32)) else xa2)), .val (.int (if (vpick &&& (8 : Int32)) = (0 : Int32) then (own_ch vt_ (3 : Int32)) else xa3)), .val (.int (if (vpick &&& (16 : Int32)) = (0 : Int32) then (own_ch vt_ (4 : Int32)) else xa4)), .val (.int (if (vpick &&& (32 : Int32)) = (0 : Int32) then (own_ch vt_ (5 : Int32)) else xa5)), .unset, .unset, .unset, .unset, .unset, .unset, .unset, .unset, .unset, .unset, .unset] [])) t → Steps p.tables e below (s₁.setTop (entryFrame m #[(.long vs), (.long vt_), (.int vlens), (.int vssid), (.int vpick)] maxLocals)) t := by
    intro t kt
    refine pre39 t ?_
    show Steps p.tables e below (T39.setTop (mkF m 157 #[.val (.long vs), .second, .val (.long vt_), .second, .val (.int vlens), .val (.int vssid), .val (.int vpick), .val (.int xa0), .val (.int xa1), .val (.int xa2), .val (.int xa3), .val (.int xa4), .val (.int xa5), .val (.int (if (vpick &&& (1 : Int32)) = (0 : Int32) then (own_ch vt_ (0 : Int32)) else xa0)), .val (.int (if (vpick &&& (2 : Int32)) = (0 : Int32) then (own_ch vt_ (1 : Int32)) else xa1)), .val (.int (if (vpick &&& (4 : Int32)) = (0 : Int32) then (own_ch vt_ (2 : Int32)) else xa2)), .val (.int (if (vpick &&& (8 : Int32)) = (0 : Int32) then (own_ch vt_ (3 : Int32)) else xa3)), .val (.int (if (vpick &&& (16 : Int32)) = (0 : Int32) then (own_ch vt_ (4 : Int32)) else xa4)), .unset, .unset, .unset, .unset, .unset, .unset, .unset, .unset, .unset, .unset, .unset, .unset] [(.int (if (vpick &&& (32 : Int32)) = (0 : Int32) then (own_ch vt_ (5 : Int32)) else xa5))])) _
    refine XS.istore X39.here hx rfl (hb hby at_157) rfl (l' := #[.val (.long vs), .second, .val (.long vt_), .second, .val (.int vlens), .val (.int vssid), .val (.int vpick), .val (.int xa0), .val (.int xa1), .val (.int xa2), .val (.int xa3), .val (.int xa4), .val (.int xa5), .val (.int (if (vpick &&& (1 : Int32)) = (0 : Int32) then (own_ch vt_ (0 : Int32)) else xa0)), .val (.int (if (vpick &&& (2 : Int32)) = (0 : Int32) then (own_ch vt_ (1 : Int32)) else xa1)), .val (.int (if (vpick &&& (4 : Int32)) = (0 : Int32) then (own_ch vt_ (2 : Int32)) else xa2)), .val (.int (if (vpick &&& (8 : Int32)) = (0 : Int32) then (own_ch vt_ (3 : Int32)) else xa3)), .val (.int (if (vpick &&& (16 : Int32)) = (0 : Int32) then (own_ch vt_ (4 : Int32)) else xa4)), .val (.int (if (vpick &&& (32 : Int32)) = (0 : Int32) then (own_ch vt_ (5 : Int32)) else xa5)), .unset, .unset, .unset, .unset, .unset, .unset, .unset, .unset, .unset, .unset, .unset]) rfl ?_
    exact kt
  obtain ⟨xb0, hxb0⟩ : ∃ z : Int32, z = (if (vpick &&& (1 : Int32)) = (0 : Int32) then (own_ch vt_ (0 : Int32)) else xa0) := ⟨_, rfl⟩
  rw [← hxb0] at pre44
  obtain ⟨xb1, hxb1⟩ : ∃ z : Int32, z = (if (vpick &&& (2 : Int32)) = (0 : Int32) then (own_ch vt_ (1 : Int32)) else xa1) := ⟨_, rfl⟩
  rw [← hxb1] at pre44
  obtain ⟨xb2, hxb2⟩ : ∃ z : Int32, z = (if (vpick &&& (4 : Int32)) = (0 : Int32) then (own_ch vt_ (2 : Int32)) else xa2) := ⟨_, rfl⟩
  rw [← hxb2] at pre44
  obtain ⟨xb3, hxb3⟩ : ∃ z : Int32, z = (if (vpick &&& (8 : Int32)) = (0 : Int32) then (own_ch vt_ (3 : Int32)) else xa3) := ⟨_, rfl⟩
  rw [← hxb3] at pre44
  obtain ⟨xb4, hxb4⟩ : ∃ z : Int32, z = (if (vpick &&& (16 : Int32)) = (0 : Int32) then (own_ch vt_ (4 : Int32)) else xa4) := ⟨_, rfl⟩
  rw [← hxb4] at pre44
  obtain ⟨xb5, hxb5⟩ : ∃ z : Int32, z = (if (vpick &&& (32 : Int32)) = (0 : Int32) then (own_ch vt_ (5 : Int32)) else xa5) := ⟨_, rfl⟩
  rw [← hxb5] at pre44
  have ob0 : own_okc xb0 := by { rw [hxb0]; split <;> first | exact own_ch_ok _ _ | exact oa0 }
  have ob1 : own_okc xb1 := by { rw [hxb1]; split <;> first | exact own_ch_ok _ _ | exact oa1 }
  have ob2 : own_okc xb2 := by { rw [hxb2]; split <;> first | exact own_ch_ok _ _ | exact oa2 }
  have ob3 : own_okc xb3 := by { rw [hxb3]; split <;> first | exact own_ch_ok _ _ | exact oa3 }
  have ob4 : own_okc xb4 := by { rw [hxb4]; split <;> first | exact own_ch_ok _ _ | exact oa4 }
  have ob5 : own_okc xb5 := by { rw [hxb5]; split <;> first | exact own_ch_ok _ _ | exact oa5 }
  have pre45 : ∀ t, Steps p.tables e below (T39.setTop (mkF m 176 #[.val (.long vs), .second, .val (.long vt_), .second, .val (.int vlens), .val (.int vssid), .val (.int vpick), .val (.int xa0), .val (.int xa1), .val (.int xa2), .val (.int xa3), .val (.int xa4), .val (.int xa5), .val (.int xb0), .val (.int xb1), .val (.int xb2), .val (.int xb3), .val (.int xb4), .val (.int xb5), .val (.int (((vlens &&& (2147483647 : Int32)) % (6 : Int32)) + (1 : Int32))), .unset, .unset, .unset, .unset, .unset, .unset, .unset, .unset, .unset, .unset] [(.int (vpick &&& (64 : Int32)))])) t → Steps p.tables e below (s₁.setTop (entryFrame m #[(.long vs), (.long vt_), (.int vlens), (.int vssid), (.int vpick)] maxLocals)) t := by
    intro t kt
    refine pre44 t ?_
    show Steps p.tables e below (T39.setTop (mkF m 159 #[.val (.long vs), .second, .val (.long vt_), .second, .val (.int vlens), .val (.int vssid), .val (.int vpick), .val (.int xa0), .val (.int xa1), .val (.int xa2), .val (.int xa3), .val (.int xa4), .val (.int xa5), .val (.int xb0), .val (.int xb1), .val (.int xb2), .val (.int xb3), .val (.int xb4), .val (.int xb5), .unset, .unset, .unset, .unset, .unset, .unset, .unset, .unset, .unset, .unset, .unset] [])) _
    refine XS.iload X39.here hx rfl (hb hby at_159) rfl ?_
    show Steps p.tables e below (T39.setTop (mkF m 161 #[.val (.long vs), .second, .val (.long vt_), .second, .val (.int vlens), .val (.int vssid), .val (.int vpick), .val (.int xa0), .val (.int xa1), .val (.int xa2), .val (.int xa3), .val (.int xa4), .val (.int xa5), .val (.int xb0), .val (.int xb1), .val (.int xb2), .val (.int xb3), .val (.int xb4), .val (.int xb5), .unset, .unset, .unset, .unset, .unset, .unset, .unset, .unset, .unset, .unset, .unset] [(.int vlens)])) _
    refine X39.ldcI hx hown (mvT hZ (hw _ (List.mem_of_getElem? (i := 5) rfl))) (g := (mkF m 161 #[.val (.long vs), .second, .val (.long vt_), .second, .val (.int vlens), .val (.int vssid), .val (.int vpick), .val (.int xa0), .val (.int xa1), .val (.int xa2), .val (.int xa3), .val (.int xa4), .val (.int xa5), .val (.int xb0), .val (.int xb1), .val (.int xb2), .val (.int xb3), .val (.int xb4), .val (.int xb5), .unset, .unset, .unset, .unset, .unset, .unset, .unset, .unset, .unset, .unset, .unset] [(.int vlens)])) rfl (hb hby at_161) ?_
    show Steps p.tables e below (T39.setTop (mkF m 163 #[.val (.long vs), .second, .val (.long vt_), .second, .val (.int vlens), .val (.int vssid), .val (.int vpick), .val (.int xa0), .val (.int xa1), .val (.int xa2), .val (.int xa3), .val (.int xa4), .val (.int xa5), .val (.int xb0), .val (.int xb1), .val (.int xb2), .val (.int xb3), .val (.int xb4), .val (.int xb5), .unset, .unset, .unset, .unset, .unset, .unset, .unset, .unset, .unset, .unset, .unset] [(.int (2147483647 : Int32)), (.int vlens)])) _
    refine XS.iand X39.here hx rfl (hb hby at_163) rfl ?_
    show Steps p.tables e below (T39.setTop (mkF m 164 #[.val (.long vs), .second, .val (.long vt_), .second, .val (.int vlens), .val (.int vssid), .val (.int vpick), .val (.int xa0), .val (.int xa1), .val (.int xa2), .val (.int xa3), .val (.int xa4), .val (.int xa5), .val (.int xb0), .val (.int xb1), .val (.int xb2), .val (.int xb3), .val (.int xb4), .val (.int xb5), .unset, .unset, .unset, .unset, .unset, .unset, .unset, .unset, .unset, .unset, .unset] [(.int (vlens &&& (2147483647 : Int32)))])) _
    refine XS.bipush X39.here hx rfl (hb hby at_164) ?_
    show Steps p.tables e below (T39.setTop (mkF m 166 #[.val (.long vs), .second, .val (.long vt_), .second, .val (.int vlens), .val (.int vssid), .val (.int vpick), .val (.int xa0), .val (.int xa1), .val (.int xa2), .val (.int xa3), .val (.int xa4), .val (.int xa5), .val (.int xb0), .val (.int xb1), .val (.int xb2), .val (.int xb3), .val (.int xb4), .val (.int xb5), .unset, .unset, .unset, .unset, .unset, .unset, .unset, .unset, .unset, .unset, .unset] [(.int (6 : Int32)), (.int (vlens &&& (2147483647 : Int32)))])) _
    refine iremM X39 hx rfl (hb hby at_166) rfl (by decide) ?_
    show Steps p.tables e below (T39.setTop (mkF m 167 #[.val (.long vs), .second, .val (.long vt_), .second, .val (.int vlens), .val (.int vssid), .val (.int vpick), .val (.int xa0), .val (.int xa1), .val (.int xa2), .val (.int xa3), .val (.int xa4), .val (.int xa5), .val (.int xb0), .val (.int xb1), .val (.int xb2), .val (.int xb3), .val (.int xb4), .val (.int xb5), .unset, .unset, .unset, .unset, .unset, .unset, .unset, .unset, .unset, .unset, .unset] [(.int ((vlens &&& (2147483647 : Int32)) % (6 : Int32)))])) _
    refine XS.iconst X39.here hx rfl (hb hby at_167) ?_
    show Steps p.tables e below (T39.setTop (mkF m 168 #[.val (.long vs), .second, .val (.long vt_), .second, .val (.int vlens), .val (.int vssid), .val (.int vpick), .val (.int xa0), .val (.int xa1), .val (.int xa2), .val (.int xa3), .val (.int xa4), .val (.int xa5), .val (.int xb0), .val (.int xb1), .val (.int xb2), .val (.int xb3), .val (.int xb4), .val (.int xb5), .unset, .unset, .unset, .unset, .unset, .unset, .unset, .unset, .unset, .unset, .unset] [(.int (1 : Int32)), (.int ((vlens &&& (2147483647 : Int32)) % (6 : Int32)))])) _
    refine XS.iadd X39.here hx rfl (hb hby at_168) rfl ?_
    show Steps p.tables e below (T39.setTop (mkF m 169 #[.val (.long vs), .second, .val (.long vt_), .second, .val (.int vlens), .val (.int vssid), .val (.int vpick), .val (.int xa0), .val (.int xa1), .val (.int xa2), .val (.int xa3), .val (.int xa4), .val (.int xa5), .val (.int xb0), .val (.int xb1), .val (.int xb2), .val (.int xb3), .val (.int xb4), .val (.int xb5), .unset, .unset, .unset, .unset, .unset, .unset, .unset, .unset, .unset, .unset, .unset] [(.int (((vlens &&& (2147483647 : Int32)) % (6 : Int32)) + (1 : Int32)))])) _
    refine XS.istore X39.here hx rfl (hb hby at_169) rfl (l' := #[.val (.long vs), .second, .val (.long vt_), .second, .val (.int vlens), .val (.int vssid), .val (.int vpick), .val (.int xa0), .val (.int xa1), .val (.int xa2), .val (.int xa3), .val (.int xa4), .val (.int xa5), .val (.int xb0), .val (.int xb1), .val (.int xb2), .val (.int xb3), .val (.int xb4), .val (.int xb5), .val (.int (((vlens &&& (2147483647 : Int32)) % (6 : Int32)) + (1 : Int32))), .unset, .unset, .unset, .unset, .unset, .unset, .unset, .unset, .unset, .unset]) rfl ?_
    show Steps p.tables e below (T39.setTop (mkF m 171 #[.val (.long vs), .second, .val (.long vt_), .second, .val (.int vlens), .val (.int vssid), .val (.int vpick), .val (.int xa0), .val (.int xa1), .val (.int xa2), .val (.int xa3), .val (.int xa4), .val (.int xa5), .val (.int xb0), .val (.int xb1), .val (.int xb2), .val (.int xb3), .val (.int xb4), .val (.int xb5), .val (.int (((vlens &&& (2147483647 : Int32)) % (6 : Int32)) + (1 : Int32))), .unset, .unset, .unset, .unset, .unset, .unset, .unset, .unset, .unset, .unset] [])) _
    refine XS.iload X39.here hx rfl (hb hby at_171) rfl ?_
    show Steps p.tables e below (T39.setTop (mkF m 173 #[.val (.long vs), .second, .val (.long vt_), .second, .val (.int vlens), .val (.int vssid), .val (.int vpick), .val (.int xa0), .val (.int xa1), .val (.int xa2), .val (.int xa3), .val (.int xa4), .val (.int xa5), .val (.int xb0), .val (.int xb1), .val (.int xb2), .val (.int xb3), .val (.int xb4), .val (.int xb5), .val (.int (((vlens &&& (2147483647 : Int32)) % (6 : Int32)) + (1 : Int32))), .unset, .unset, .unset, .unset, .unset, .unset, .unset, .unset, .unset, .unset] [(.int vpick)])) _
    refine XS.bipush X39.here hx rfl (hb hby at_173) ?_
    show Steps p.tables e below (T39.setTop (mkF m 175 #[.val (.long vs), .second, .val (.long vt_), .second, .val (.int vlens), .val (.int vssid), .val (.int vpick), .val (.int xa0), .val (.int xa1), .val (.int xa2), .val (.int xa3), .val (.int xa4), .val (.int xa5), .val (.int xb0), .val (.int xb1), .val (.int xb2), .val (.int xb3), .val (.int xb4), .val (.int xb5), .val (.int (((vlens &&& (2147483647 : Int32)) % (6 : Int32)) + (1 : Int32))), .unset, .unset, .unset, .unset, .unset, .unset, .unset, .unset, .unset, .unset] [(.int (64 : Int32)), (.int vpick)])) _
    refine XS.iand X39.here hx rfl (hb hby at_175) rfl ?_
    exact kt
  obtain ⟨T46, L46, X46, e46, N46, pre46⟩ : ∃ (Tm : State) (Lm : List Loc), Stand p l e room_1 s m #[(.long vs), (.long vt_), (.int vlens), (.int vssid), (.int vpick)] below meth c Tm Lm 0 0 ∧ Tm.heap = h0 ∧ Fr n0 Lm ∧ ∀ t, Steps p.tables e below (Tm.setTop (mkF m 193 #[.val (.long vs), .second, .val (.long vt_), .second, .val (.int vlens), .val (.int vssid), .val (.int vpick), .val (.int xa0), .val (.int xa1), .val (.int xa2), .val (.int xa3), .val (.int xa4), .val (.int xa5), .val (.int xb0), .val (.int xb1), .val (.int xb2), .val (.int xb3), .val (.int xb4), .val (.int xb5), .val (.int (((vlens &&& (2147483647 : Int32)) % (6 : Int32)) + (1 : Int32))), .unset, .unset, .unset, .unset, .unset, .unset, .unset, .unset, .unset, .unset] [(.int (if (vpick &&& (64 : Int32)) = (0 : Int32) then ((((vlens.toUInt32 >>> ((3 : Int32) &&& 31).toUInt32).toInt32) % (6 : Int32)) + (1 : Int32)) else (((vlens &&& (2147483647 : Int32)) % (6 : Int32)) + (1 : Int32))))])) t → Steps p.tables e below (s₁.setTop (entryFrame m #[(.long vs), (.long vt_), (.int vlens), (.int vssid), (.int vpick)] maxLocals)) t := by
    by_cases hc47 : (vpick &&& (64 : Int32)) = (0 : Int32)
    ·
      have pre48 : ∀ t, Steps p.tables e below (T39.setTop (mkF m 193 #[.val (.long vs), .second, .val (.long vt_), .second, .val (.int vlens), .val (.int vssid), .val (.int vpick), .val (.int xa0), .val (.int xa1), .val (.int xa2), .val (.int xa3), .val (.int xa4), .val (.int xa5), .val (.int xb0), .val (.int xb1), .val (.int xb2), .val (.int xb3), .val (.int xb4), .val (.int xb5), .val (.int (((vlens &&& (2147483647 : Int32)) % (6 : Int32)) + (1 : Int32))), .unset, .unset, .unset, .unset, .unset, .unset, .unset, .unset, .unset, .unset] [(.int ((((vlens.toUInt32 >>> ((3 : Int32) &&& 31).toUInt32).toInt32) % (6 : Int32)) + (1 : Int32)))])) t → Steps p.tables e below (s₁.setTop (entryFrame m #[(.long vs), (.long vt_), (.int vlens), (.int vssid), (.int vpick)] maxLocals)) t := by
        intro t kt
        refine pre45 t ?_
        show Steps p.tables e below (T39.setTop (mkF m 176 #[.val (.long vs), .second, .val (.long vt_), .second, .val (.int vlens), .val (.int vssid), .val (.int vpick), .val (.int xa0), .val (.int xa1), .val (.int xa2), .val (.int xa3), .val (.int xa4), .val (.int xa5), .val (.int xb0), .val (.int xb1), .val (.int xb2), .val (.int xb3), .val (.int xb4), .val (.int xb5), .val (.int (((vlens &&& (2147483647 : Int32)) % (6 : Int32)) + (1 : Int32))), .unset, .unset, .unset, .unset, .unset, .unset, .unset, .unset, .unset, .unset] [(.int (vpick &&& (64 : Int32)))])) _
        refine XS.ifYes X39.here hx rfl (pc0 := 176) (pc' := 184) rfl (hb hby at_176) rfl ((if0 _ _).trans (teq (hc47 : (vpick &&& (64 : Int32)) = (0 : Int32))).1) (by decide) (by decide) ?_
        show Steps p.tables e below (T39.setTop (mkF m 184 #[.val (.long vs), .second, .val (.long vt_), .second, .val (.int vlens), .val (.int vssid), .val (.int vpick), .val (.int xa0), .val (.int xa1), .val (.int xa2), .val (.int xa3), .val (.int xa4), .val (.int xa5), .val (.int xb0), .val (.int xb1), .val (.int xb2), .val (.int xb3), .val (.int xb4), .val (.int xb5), .val (.int (((vlens &&& (2147483647 : Int32)) % (6 : Int32)) + (1 : Int32))), .unset, .unset, .unset, .unset, .unset, .unset, .unset, .unset, .unset, .unset] [])) _
        refine XS.iload X39.here hx rfl (hb hby at_184) rfl ?_
        show Steps p.tables e below (T39.setTop (mkF m 186 #[.val (.long vs), .second, .val (.long vt_), .second, .val (.int vlens), .val (.int vssid), .val (.int vpick), .val (.int xa0), .val (.int xa1), .val (.int xa2), .val (.int xa3), .val (.int xa4), .val (.int xa5), .val (.int xb0), .val (.int xb1), .val (.int xb2), .val (.int xb3), .val (.int xb4), .val (.int xb5), .val (.int (((vlens &&& (2147483647 : Int32)) % (6 : Int32)) + (1 : Int32))), .unset, .unset, .unset, .unset, .unset, .unset, .unset, .unset, .unset, .unset] [(.int vlens)])) _
        refine XS.iconst X39.here hx rfl (hb hby at_186) ?_
        show Steps p.tables e below (T39.setTop (mkF m 187 #[.val (.long vs), .second, .val (.long vt_), .second, .val (.int vlens), .val (.int vssid), .val (.int vpick), .val (.int xa0), .val (.int xa1), .val (.int xa2), .val (.int xa3), .val (.int xa4), .val (.int xa5), .val (.int xb0), .val (.int xb1), .val (.int xb2), .val (.int xb3), .val (.int xb4), .val (.int xb5), .val (.int (((vlens &&& (2147483647 : Int32)) % (6 : Int32)) + (1 : Int32))), .unset, .unset, .unset, .unset, .unset, .unset, .unset, .unset, .unset, .unset] [(.int (3 : Int32)), (.int vlens)])) _
        refine XS.iushr X39.here hx rfl (hb hby at_187) rfl ?_
        show Steps p.tables e below (T39.setTop (mkF m 188 #[.val (.long vs), .second, .val (.long vt_), .second, .val (.int vlens), .val (.int vssid), .val (.int vpick), .val (.int xa0), .val (.int xa1), .val (.int xa2), .val (.int xa3), .val (.int xa4), .val (.int xa5), .val (.int xb0), .val (.int xb1), .val (.int xb2), .val (.int xb3), .val (.int xb4), .val (.int xb5), .val (.int (((vlens &&& (2147483647 : Int32)) % (6 : Int32)) + (1 : Int32))), .unset, .unset, .unset, .unset, .unset, .unset, .unset, .unset, .unset, .unset] [(.int ((vlens.toUInt32 >>> ((3 : Int32) &&& 31).toUInt32).toInt32))])) _
        refine XS.bipush X39.here hx rfl (hb hby at_188) ?_
        show Steps p.tables e below (T39.setTop (mkF m 190 #[.val (.long vs), .second, .val (.long vt_), .second, .val (.int vlens), .val (.int vssid), .val (.int vpick), .val (.int xa0), .val (.int xa1), .val (.int xa2), .val (.int xa3), .val (.int xa4), .val (.int xa5), .val (.int xb0), .val (.int xb1), .val (.int xb2), .val (.int xb3), .val (.int xb4), .val (.int xb5), .val (.int (((vlens &&& (2147483647 : Int32)) % (6 : Int32)) + (1 : Int32))), .unset, .unset, .unset, .unset, .unset, .unset, .unset, .unset, .unset, .unset] [(.int (6 : Int32)), (.int ((vlens.toUInt32 >>> ((3 : Int32) &&& 31).toUInt32).toInt32))])) _
        refine iremM X39 hx rfl (hb hby at_190) rfl (by decide) ?_
        show Steps p.tables e below (T39.setTop (mkF m 191 #[.val (.long vs), .second, .val (.long vt_), .second, .val (.int vlens), .val (.int vssid), .val (.int vpick), .val (.int xa0), .val (.int xa1), .val (.int xa2), .val (.int xa3), .val (.int xa4), .val (.int xa5), .val (.int xb0), .val (.int xb1), .val (.int xb2), .val (.int xb3), .val (.int xb4), .val (.int xb5), .val (.int (((vlens &&& (2147483647 : Int32)) % (6 : Int32)) + (1 : Int32))), .unset, .unset, .unset, .unset, .unset, .unset, .unset, .unset, .unset, .unset] [(.int (((vlens.toUInt32 >>> ((3 : Int32) &&& 31).toUInt32).toInt32) % (6 : Int32)))])) _
        refine XS.iconst X39.here hx rfl (hb hby at_191) ?_
        show Steps p.tables e below (T39.setTop (mkF m 192 #[.val (.long vs), .second, .val (.long vt_), .second, .val (.int vlens), .val (.int vssid), .val (.int vpick), .val (.int xa0), .val (.int xa1), .val (.int xa2), .val (.int xa3), .val (.int xa4), .val (.int xa5), .val (.int xb0), .val (.int xb1), .val (.int xb2), .val (.int xb3), .val (.int xb4), .val (.int xb5), .val (.int (((vlens &&& (2147483647 : Int32)) % (6 : Int32)) + (1 : Int32))), .unset, .unset, .unset, .unset, .unset, .unset, .unset, .unset, .unset, .unset] [(.int (1 : Int32)), (.int (((vlens.toUInt32 >>> ((3 : Int32) &&& 31).toUInt32).toInt32) % (6 : Int32)))])) _
        refine XS.iadd X39.here hx rfl (hb hby at_192) rfl ?_
        exact kt
      exact ⟨T39, _, X39, e39, N39, fun t kt => by
        simp only [if_pos hc47] at kt
        exact pre48 t kt⟩
    ·
      have pre49 : ∀ t, Steps p.tables e below (T39.setTop (mkF m 193 #[.val (.long vs), .second, .val (.long vt_), .second, .val (.int vlens), .val (.int vssid), .val (.int vpick), .val (.int xa0), .val (.int xa1), .val (.int xa2), .val (.int xa3), .val (.int xa4), .val (.int xa5), .val (.int xb0), .val (.int xb1), .val (.int xb2), .val (.int xb3), .val (.int xb4), .val (.int xb5), .val (.int (((vlens &&& (2147483647 : Int32)) % (6 : Int32)) + (1 : Int32))), .unset, .unset, .unset, .unset, .unset, .unset, .unset, .unset, .unset, .unset] [(.int (((vlens &&& (2147483647 : Int32)) % (6 : Int32)) + (1 : Int32)))])) t → Steps p.tables e below (s₁.setTop (entryFrame m #[(.long vs), (.long vt_), (.int vlens), (.int vssid), (.int vpick)] maxLocals)) t := by
        intro t kt
        refine pre45 t ?_
        show Steps p.tables e below (T39.setTop (mkF m 176 #[.val (.long vs), .second, .val (.long vt_), .second, .val (.int vlens), .val (.int vssid), .val (.int vpick), .val (.int xa0), .val (.int xa1), .val (.int xa2), .val (.int xa3), .val (.int xa4), .val (.int xa5), .val (.int xb0), .val (.int xb1), .val (.int xb2), .val (.int xb3), .val (.int xb4), .val (.int xb5), .val (.int (((vlens &&& (2147483647 : Int32)) % (6 : Int32)) + (1 : Int32))), .unset, .unset, .unset, .unset, .unset, .unset, .unset, .unset, .unset, .unset] [(.int (vpick &&& (64 : Int32)))])) _
        refine XS.ifNo X39.here hx rfl (hb hby at_176) rfl ((if0 _ _).trans (feq (hc47 : ¬ ((vpick &&& (64 : Int32)) = (0 : Int32)))).1) ?_
        show Steps p.tables e below (T39.setTop (mkF m 179 #[.val (.long vs), .second, .val (.long vt_), .second, .val (.int vlens), .val (.int vssid), .val (.int vpick), .val (.int xa0), .val (.int xa1), .val (.int xa2), .val (.int xa3), .val (.int xa4), .val (.int xa5), .val (.int xb0), .val (.int xb1), .val (.int xb2), .val (.int xb3), .val (.int xb4), .val (.int xb5), .val (.int (((vlens &&& (2147483647 : Int32)) % (6 : Int32)) + (1 : Int32))), .unset, .unset, .unset, .unset, .unset, .unset, .unset, .unset, .unset, .unset] [])) _
        refine XS.iload X39.here hx rfl (hb hby at_179) rfl ?_
        show Steps p.tables e below (T39.setTop (mkF m 181 #[.val (.long vs), .second, .val (.long vt_), .second, .val (.int vlens), .val (.int vssid), .val (.int vpick), .val (.int xa0), .val (.int xa1), .val (.int xa2), .val (.int xa3), .val (.int xa4), .val (.int xa5), .val (.int xb0), .val (.int xb1), .val (.int xb2), .val (.int xb3), .val (.int xb4), .val (.int xb5), .val (.int (((vlens &&& (2147483647 : Int32)) % (6 : Int32)) + (1 : Int32))), .unset, .unset, .unset, .unset, .unset, .unset, .unset, .unset, .unset, .unset] [(.int (((vlens &&& (2147483647 : Int32)) % (6 : Int32)) + (1 : Int32)))])) _
        refine XS.goto X39.here hx rfl (pc0 := 181) (pc' := 193) rfl (hb hby at_181) (by decide) (by decide) ?_
        exact kt
      exact ⟨T39, _, X39, e39, N39, fun t kt => by
        simp only [if_neg hc47] at kt
        exact pre49 t kt⟩
  have pre50 : ∀ t, Steps p.tables e below (T46.setTop (mkF m 208 #[.val (.long vs), .second, .val (.long vt_), .second, .val (.int vlens), .val (.int vssid), .val (.int vpick), .val (.int xa0), .val (.int xa1), .val (.int xa2), .val (.int xa3), .val (.int xa4), .val (.int xa5), .val (.int xb0), .val (.int xb1), .val (.int xb2), .val (.int xb3), .val (.int xb4), .val (.int xb5), .val (.int (((vlens &&& (2147483647 : Int32)) % (6 : Int32)) + (1 : Int32))), .val (.int (if (vpick &&& (64 : Int32)) = (0 : Int32) then ((((vlens.toUInt32 >>> ((3 : Int32) &&& 31).toUInt32).toInt32) % (6 : Int32)) + (1 : Int32)) else (((vlens &&& (2147483647 : Int32)) % (6 : Int32)) + (1 : Int32)))), .val (.int (vssid &&& (15 : Int32))), .unset, .unset, .unset, .unset, .unset, .unset, .unset, .unset] [(.int (vpick &&& (128 : Int32)))])) t → Steps p.tables e below (s₁.setTop (entryFrame m #[(.long vs), (.long vt_), (.int vlens), (.int vssid), (.int vpick)] maxLocals)) t := by
    intro t kt
    refine pre46 t ?_
    show Steps p.tables e below (T46.setTop (mkF m 193 #[.val (.long vs), .second, .val (.long vt_), .second, .val (.int vlens), .val (.int vssid), .val (.int vpick), .val (.int xa0), .val (.int xa1), .val (.int xa2), .val (.int xa3), .val (.int xa4), .val (.int xa5), .val (.int xb0), .val (.int xb1), .val (.int xb2), .val (.int xb3), .val (.int xb4), .val (.int xb5), .val (.int (((vlens &&& (2147483647 : Int32)) % (6 : Int32)) + (1 : Int32))), .unset, .unset, .unset, .unset, .unset, .unset, .unset, .unset, .unset, .unset] [(.int (if (vpick &&& (64 : Int32)) = (0 : Int32) then ((((vlens.toUInt32 >>> ((3 : Int32) &&& 31).toUInt32).toInt32) % (6 : Int32)) + (1 : Int32)) else (((vlens &&& (2147483647 : Int32)) % (6 : Int32)) + (1 : Int32))))])) _
    refine XS.istore X46.here hx rfl (hb hby at_193) rfl (l' := #[.val (.long vs), .second, .val (.long vt_), .second, .val (.int vlens), .val (.int vssid), .val (.int vpick), .val (.int xa0), .val (.int xa1), .val (.int xa2), .val (.int xa3), .val (.int xa4), .val (.int xa5), .val (.int xb0), .val (.int xb1), .val (.int xb2), .val (.int xb3), .val (.int xb4), .val (.int xb5), .val (.int (((vlens &&& (2147483647 : Int32)) % (6 : Int32)) + (1 : Int32))), .val (.int (if (vpick &&& (64 : Int32)) = (0 : Int32) then ((((vlens.toUInt32 >>> ((3 : Int32) &&& 31).toUInt32).toInt32) % (6 : Int32)) + (1 : Int32)) else (((vlens &&& (2147483647 : Int32)) % (6 : Int32)) + (1 : Int32)))), .unset, .unset, .unset, .unset, .unset, .unset, .unset, .unset, .unset]) rfl ?_
    show Steps p.tables e below (T46.setTop (mkF m 195 #[.val (.long vs), .second, .val (.long vt_), .second, .val (.int vlens), .val (.int vssid), .val (.int vpick), .val (.int xa0), .val (.int xa1), .val (.int xa2), .val (.int xa3), .val (.int xa4), .val (.int xa5), .val (.int xb0), .val (.int xb1), .val (.int xb2), .val (.int xb3), .val (.int xb4), .val (.int xb5), .val (.int (((vlens &&& (2147483647 : Int32)) % (6 : Int32)) + (1 : Int32))), .val (.int (if (vpick &&& (64 : Int32)) = (0 : Int32) then ((((vlens.toUInt32 >>> ((3 : Int32) &&& 31).toUInt32).toInt32) % (6 : Int32)) + (1 : Int32)) else (((vlens &&& (2147483647 : Int32)) % (6 : Int32)) + (1 : Int32)))), .unset, .unset, .unset, .unset, .unset, .unset, .unset, .unset, .unset] [])) _
    refine XS.iload X46.here hx rfl (hb hby at_195) rfl ?_
    show Steps p.tables e below (T46.setTop (mkF m 197 #[.val (.long vs), .second, .val (.long vt_), .second, .val (.int vlens), .val (.int vssid), .val (.int vpick), .val (.int xa0), .val (.int xa1), .val (.int xa2), .val (.int xa3), .val (.int xa4), .val (.int xa5), .val (.int xb0), .val (.int xb1), .val (.int xb2), .val (.int xb3), .val (.int xb4), .val (.int xb5), .val (.int (((vlens &&& (2147483647 : Int32)) % (6 : Int32)) + (1 : Int32))), .val (.int (if (vpick &&& (64 : Int32)) = (0 : Int32) then ((((vlens.toUInt32 >>> ((3 : Int32) &&& 31).toUInt32).toInt32) % (6 : Int32)) + (1 : Int32)) else (((vlens &&& (2147483647 : Int32)) % (6 : Int32)) + (1 : Int32)))), .unset, .unset, .unset, .unset, .unset, .unset, .unset, .unset, .unset] [(.int vssid)])) _
    refine XS.bipush X46.here hx rfl (hb hby at_197) ?_
    show Steps p.tables e below (T46.setTop (mkF m 199 #[.val (.long vs), .second, .val (.long vt_), .second, .val (.int vlens), .val (.int vssid), .val (.int vpick), .val (.int xa0), .val (.int xa1), .val (.int xa2), .val (.int xa3), .val (.int xa4), .val (.int xa5), .val (.int xb0), .val (.int xb1), .val (.int xb2), .val (.int xb3), .val (.int xb4), .val (.int xb5), .val (.int (((vlens &&& (2147483647 : Int32)) % (6 : Int32)) + (1 : Int32))), .val (.int (if (vpick &&& (64 : Int32)) = (0 : Int32) then ((((vlens.toUInt32 >>> ((3 : Int32) &&& 31).toUInt32).toInt32) % (6 : Int32)) + (1 : Int32)) else (((vlens &&& (2147483647 : Int32)) % (6 : Int32)) + (1 : Int32)))), .unset, .unset, .unset, .unset, .unset, .unset, .unset, .unset, .unset] [(.int (15 : Int32)), (.int vssid)])) _
    refine XS.iand X46.here hx rfl (hb hby at_199) rfl ?_
    show Steps p.tables e below (T46.setTop (mkF m 200 #[.val (.long vs), .second, .val (.long vt_), .second, .val (.int vlens), .val (.int vssid), .val (.int vpick), .val (.int xa0), .val (.int xa1), .val (.int xa2), .val (.int xa3), .val (.int xa4), .val (.int xa5), .val (.int xb0), .val (.int xb1), .val (.int xb2), .val (.int xb3), .val (.int xb4), .val (.int xb5), .val (.int (((vlens &&& (2147483647 : Int32)) % (6 : Int32)) + (1 : Int32))), .val (.int (if (vpick &&& (64 : Int32)) = (0 : Int32) then ((((vlens.toUInt32 >>> ((3 : Int32) &&& 31).toUInt32).toInt32) % (6 : Int32)) + (1 : Int32)) else (((vlens &&& (2147483647 : Int32)) % (6 : Int32)) + (1 : Int32)))), .unset, .unset, .unset, .unset, .unset, .unset, .unset, .unset, .unset] [(.int (vssid &&& (15 : Int32)))])) _
    refine XS.istore X46.here hx rfl (hb hby at_200) rfl (l' := #[.val (.long vs), .second, .val (.long vt_), .second, .val (.int vlens), .val (.int vssid), .val (.int vpick), .val (.int xa0), .val (.int xa1), .val (.int xa2), .val (.int xa3), .val (.int xa4), .val (.int xa5), .val (.int xb0), .val (.int xb1), .val (.int xb2), .val (.int xb3), .val (.int xb4), .val (.int xb5), .val (.int (((vlens &&& (2147483647 : Int32)) % (6 : Int32)) + (1 : Int32))), .val (.int (if (vpick &&& (64 : Int32)) = (0 : Int32) then ((((vlens.toUInt32 >>> ((3 : Int32) &&& 31).toUInt32).toInt32) % (6 : Int32)) + (1 : Int32)) else (((vlens &&& (2147483647 : Int32)) % (6 : Int32)) + (1 : Int32)))), .val (.int (vssid &&& (15 : Int32))), .unset, .unset, .unset, .unset, .unset, .unset, .unset, .unset]) rfl ?_
    show Steps p.tables e below (T46.setTop (mkF m 202 #[.val (.long vs), .second, .val (.long vt_), .second, .val (.int vlens), .val (.int vssid), .val (.int vpick), .val (.int xa0), .val (.int xa1), .val (.int xa2), .val (.int xa3), .val (.int xa4), .val (.int xa5), .val (.int xb0), .val (.int xb1), .val (.int xb2), .val (.int xb3), .val (.int xb4), .val (.int xb5), .val (.int (((vlens &&& (2147483647 : Int32)) % (6 : Int32)) + (1 : Int32))), .val (.int (if (vpick &&& (64 : Int32)) = (0 : Int32) then ((((vlens.toUInt32 >>> ((3 : Int32) &&& 31).toUInt32).toInt32) % (6 : Int32)) + (1 : Int32)) else (((vlens &&& (2147483647 : Int32)) % (6 : Int32)) + (1 : Int32)))), .val (.int (vssid &&& (15 : Int32))), .unset, .unset, .unset, .unset, .unset, .unset, .unset, .unset] [])) _
    refine XS.iload X46.here hx rfl (hb hby at_202) rfl ?_
    show Steps p.tables e below (T46.setTop (mkF m 204 #[.val (.long vs), .second, .val (.long vt_), .second, .val (.int vlens), .val (.int vssid), .val (.int vpick), .val (.int xa0), .val (.int xa1), .val (.int xa2), .val (.int xa3), .val (.int xa4), .val (.int xa5), .val (.int xb0), .val (.int xb1), .val (.int xb2), .val (.int xb3), .val (.int xb4), .val (.int xb5), .val (.int (((vlens &&& (2147483647 : Int32)) % (6 : Int32)) + (1 : Int32))), .val (.int (if (vpick &&& (64 : Int32)) = (0 : Int32) then ((((vlens.toUInt32 >>> ((3 : Int32) &&& 31).toUInt32).toInt32) % (6 : Int32)) + (1 : Int32)) else (((vlens &&& (2147483647 : Int32)) % (6 : Int32)) + (1 : Int32)))), .val (.int (vssid &&& (15 : Int32))), .unset, .unset, .unset, .unset, .unset, .unset, .unset, .unset] [(.int vpick)])) _
    refine XS.sipush X46.here hx rfl (hb hby at_204) ?_
    show Steps p.tables e below (T46.setTop (mkF m 207 #[.val (.long vs), .second, .val (.long vt_), .second, .val (.int vlens), .val (.int vssid), .val (.int vpick), .val (.int xa0), .val (.int xa1), .val (.int xa2), .val (.int xa3), .val (.int xa4), .val (.int xa5), .val (.int xb0), .val (.int xb1), .val (.int xb2), .val (.int xb3), .val (.int xb4), .val (.int xb5), .val (.int (((vlens &&& (2147483647 : Int32)) % (6 : Int32)) + (1 : Int32))), .val (.int (if (vpick &&& (64 : Int32)) = (0 : Int32) then ((((vlens.toUInt32 >>> ((3 : Int32) &&& 31).toUInt32).toInt32) % (6 : Int32)) + (1 : Int32)) else (((vlens &&& (2147483647 : Int32)) % (6 : Int32)) + (1 : Int32)))), .val (.int (vssid &&& (15 : Int32))), .unset, .unset, .unset, .unset, .unset, .unset, .unset, .unset] [(.int (128 : Int32)), (.int vpick)])) _
    refine XS.iand X46.here hx rfl (hb hby at_207) rfl ?_
    exact kt
  obtain ⟨T51, L51, X51, e51, N51, pre51⟩ : ∃ (Tm : State) (Lm : List Loc), Stand p l e room_1 s m #[(.long vs), (.long vt_), (.int vlens), (.int vssid), (.int vpick)] below meth c Tm Lm 0 0 ∧ Tm.heap = h0 ∧ Fr n0 Lm ∧ ∀ t, Steps p.tables e below (Tm.setTop (mkF m 223 #[.val (.long vs), .second, .val (.long vt_), .second, .val (.int vlens), .val (.int vssid), .val (.int vpick), .val (.int xa0), .val (.int xa1), .val (.int xa2), .val (.int xa3), .val (.int xa4), .val (.int xa5), .val (.int xb0), .val (.int xb1), .val (.int xb2), .val (.int xb3), .val (.int xb4), .val (.int xb5), .val (.int (((vlens &&& (2147483647 : Int32)) % (6 : Int32)) + (1 : Int32))), .val (.int (if (vpick &&& (64 : Int32)) = (0 : Int32) then ((((vlens.toUInt32 >>> ((3 : Int32) &&& 31).toUInt32).toInt32) % (6 : Int32)) + (1 : Int32)) else (((vlens &&& (2147483647 : Int32)) % (6 : Int32)) + (1 : Int32)))), .val (.int (vssid &&& (15 : Int32))), .unset, .unset, .unset, .unset, .unset, .unset, .unset, .unset] [(.int (if (vpick &&& (128 : Int32)) = (0 : Int32) then (((vssid.toUInt32 >>> ((4 : Int32) &&& 31).toUInt32).toInt32) &&& (15 : Int32)) else (vssid &&& (15 : Int32))))])) t → Steps p.tables e below (s₁.setTop (entryFrame m #[(.long vs), (.long vt_), (.int vlens), (.int vssid), (.int vpick)] maxLocals)) t := by
    by_cases hc52 : (vpick &&& (128 : Int32)) = (0 : Int32)
    ·
      have pre53 : ∀ t, Steps p.tables e below (T46.setTop (mkF m 223 #[.val (.long vs), .second, .val (.long vt_), .second, .val (.int vlens), .val (.int vssid), .val (.int vpick), .val (.int xa0), .val (.int xa1), .val (.int xa2), .val (.int xa3), .val (.int xa4), .val (.int xa5), .val (.int xb0), .val (.int xb1), .val (.int xb2), .val (.int xb3), .val (.int xb4), .val (.int xb5), .val (.int (((vlens &&& (2147483647 : Int32)) % (6 : Int32)) + (1 : Int32))), .val (.int (if (vpick &&& (64 : Int32)) = (0 : Int32) then ((((vlens.toUInt32 >>> ((3 : Int32) &&& 31).toUInt32).toInt32) % (6 : Int32)) + (1 : Int32)) else (((vlens &&& (2147483647 : Int32)) % (6 : Int32)) + (1 : Int32)))), .val (.int (vssid &&& (15 : Int32))), .unset, .unset, .unset, .unset, .unset, .unset, .unset, .unset] [(.int (((vssid.toUInt32 >>> ((4 : Int32) &&& 31).toUInt32).toInt32) &&& (15 : Int32)))])) t → Steps p.tables e below (s₁.setTop (entryFrame m #[(.long vs), (.long vt_), (.int vlens), (.int vssid), (.int vpick)] maxLocals)) t := by
        intro t kt
        refine pre50 t ?_
        show Steps p.tables e below (T46.setTop (mkF m 208 #[.val (.long vs), .second, .val (.long vt_), .second, .val (.int vlens), .val (.int vssid), .val (.int vpick), .val (.int xa0), .val (.int xa1), .val (.int xa2), .val (.int xa3), .val (.int xa4), .val (.int xa5), .val (.int xb0), .val (.int xb1), .val (.int xb2), .val (.int xb3), .val (.int xb4), .val (.int xb5), .val (.int (((vlens &&& (2147483647 : Int32)) % (6 : Int32)) + (1 : Int32))), .val (.int (if (vpick &&& (64 : Int32)) = (0 : Int32) then ((((vlens.toUInt32 >>> ((3 : Int32) &&& 31).toUInt32).toInt32) % (6 : Int32)) + (1 : Int32)) else (((vlens &&& (2147483647 : Int32)) % (6 : Int32)) + (1 : Int32)))), .val (.int (vssid &&& (15 : Int32))), .unset, .unset, .unset, .unset, .unset, .unset, .unset, .unset] [(.int (vpick &&& (128 : Int32)))])) _
        refine XS.ifYes X46.here hx rfl (pc0 := 208) (pc' := 216) rfl (hb hby at_208) rfl ((if0 _ _).trans (teq (hc52 : (vpick &&& (128 : Int32)) = (0 : Int32))).1) (by decide) (by decide) ?_
        show Steps p.tables e below (T46.setTop (mkF m 216 #[.val (.long vs), .second, .val (.long vt_), .second, .val (.int vlens), .val (.int vssid), .val (.int vpick), .val (.int xa0), .val (.int xa1), .val (.int xa2), .val (.int xa3), .val (.int xa4), .val (.int xa5), .val (.int xb0), .val (.int xb1), .val (.int xb2), .val (.int xb3), .val (.int xb4), .val (.int xb5), .val (.int (((vlens &&& (2147483647 : Int32)) % (6 : Int32)) + (1 : Int32))), .val (.int (if (vpick &&& (64 : Int32)) = (0 : Int32) then ((((vlens.toUInt32 >>> ((3 : Int32) &&& 31).toUInt32).toInt32) % (6 : Int32)) + (1 : Int32)) else (((vlens &&& (2147483647 : Int32)) % (6 : Int32)) + (1 : Int32)))), .val (.int (vssid &&& (15 : Int32))), .unset, .unset, .unset, .unset, .unset, .unset, .unset, .unset] [])) _
        refine XS.iload X46.here hx rfl (hb hby at_216) rfl ?_
        show Steps p.tables e below (T46.setTop (mkF m 218 #[.val (.long vs), .second, .val (.long vt_), .second, .val (.int vlens), .val (.int vssid), .val (.int vpick), .val (.int xa0), .val (.int xa1), .val (.int xa2), .val (.int xa3), .val (.int xa4), .val (.int xa5), .val (.int xb0), .val (.int xb1), .val (.int xb2), .val (.int xb3), .val (.int xb4), .val (.int xb5), .val (.int (((vlens &&& (2147483647 : Int32)) % (6 : Int32)) + (1 : Int32))), .val (.int (if (vpick &&& (64 : Int32)) = (0 : Int32) then ((((vlens.toUInt32 >>> ((3 : Int32) &&& 31).toUInt32).toInt32) % (6 : Int32)) + (1 : Int32)) else (((vlens &&& (2147483647 : Int32)) % (6 : Int32)) + (1 : Int32)))), .val (.int (vssid &&& (15 : Int32))), .unset, .unset, .unset, .unset, .unset, .unset, .unset, .unset] [(.int vssid)])) _
        refine XS.iconst X46.here hx rfl (hb hby at_218) ?_
        show Steps p.tables e below (T46.setTop (mkF m 219 #[.val (.long vs), .second, .val (.long vt_), .second, .val (.int vlens), .val (.int vssid), .val (.int vpick), .val (.int xa0), .val (.int xa1), .val (.int xa2), .val (.int xa3), .val (.int xa4), .val (.int xa5), .val (.int xb0), .val (.int xb1), .val (.int xb2), .val (.int xb3), .val (.int xb4), .val (.int xb5), .val (.int (((vlens &&& (2147483647 : Int32)) % (6 : Int32)) + (1 : Int32))), .val (.int (if (vpick &&& (64 : Int32)) = (0 : Int32) then ((((vlens.toUInt32 >>> ((3 : Int32) &&& 31).toUInt32).toInt32) % (6 : Int32)) + (1 : Int32)) else (((vlens &&& (2147483647 : Int32)) % (6 : Int32)) + (1 : Int32)))), .val (.int (vssid &&& (15 : Int32))), .unset, .unset, .unset, .unset, .unset, .unset, .unset, .unset] [(.int (4 : Int32)), (.int vssid)])) _
        refine XS.iushr X46.here hx rfl (hb hby at_219) rfl ?_
        show Steps p.tables e below (T46.setTop (mkF m 220 #[.val (.long vs), .second, .val (.long vt_), .second, .val (.int vlens), .val (.int vssid), .val (.int vpick), .val (.int xa0), .val (.int xa1), .val (.int xa2), .val (.int xa3), .val (.int xa4), .val (.int xa5), .val (.int xb0), .val (.int xb1), .val (.int xb2), .val (.int xb3), .val (.int xb4), .val (.int xb5), .val (.int (((vlens &&& (2147483647 : Int32)) % (6 : Int32)) + (1 : Int32))), .val (.int (if (vpick &&& (64 : Int32)) = (0 : Int32) then ((((vlens.toUInt32 >>> ((3 : Int32) &&& 31).toUInt32).toInt32) % (6 : Int32)) + (1 : Int32)) else (((vlens &&& (2147483647 : Int32)) % (6 : Int32)) + (1 : Int32)))), .val (.int (vssid &&& (15 : Int32))), .unset, .unset, .unset, .unset, .unset, .unset, .unset, .unset] [(.int ((vssid.toUInt32 >>> ((4 : Int32) &&& 31).toUInt32).toInt32))])) _
        refine XS.bipush X46.here hx rfl (hb hby at_220) ?_
        show Steps p.tables e below (T46.setTop (mkF m 222 #[.val (.long vs), .second, .val (.long vt_), .second, .val (.int vlens), .val (.int vssid), .val (.int vpick), .val (.int xa0), .val (.int xa1), .val (.int xa2), .val (.int xa3), .val (.int xa4), .val (.int xa5), .val (.int xb0), .val (.int xb1), .val (.int xb2), .val (.int xb3), .val (.int xb4), .val (.int xb5), .val (.int (((vlens &&& (2147483647 : Int32)) % (6 : Int32)) + (1 : Int32))), .val (.int (if (vpick &&& (64 : Int32)) = (0 : Int32) then ((((vlens.toUInt32 >>> ((3 : Int32) &&& 31).toUInt32).toInt32) % (6 : Int32)) + (1 : Int32)) else (((vlens &&& (2147483647 : Int32)) % (6 : Int32)) + (1 : Int32)))), .val (.int (vssid &&& (15 : Int32))), .unset, .unset, .unset, .unset, .unset, .unset, .unset, .unset] [(.int (15 : Int32)), (.int ((vssid.toUInt32 >>> ((4 : Int32) &&& 31).toUInt32).toInt32))])) _
        refine XS.iand X46.here hx rfl (hb hby at_222) rfl ?_
        exact kt
      exact ⟨T46, _, X46, e46, N46, fun t kt => by
        simp only [if_pos hc52] at kt
        exact pre53 t kt⟩
    ·
      have pre54 : ∀ t, Steps p.tables e below (T46.setTop (mkF m 223 #[.val (.long vs), .second, .val (.long vt_), .second, .val (.int vlens), .val (.int vssid), .val (.int vpick), .val (.int xa0), .val (.int xa1), .val (.int xa2), .val (.int xa3), .val (.int xa4), .val (.int xa5), .val (.int xb0), .val (.int xb1), .val (.int xb2), .val (.int xb3), .val (.int xb4), .val (.int xb5), .val (.int (((vlens &&& (2147483647 : Int32)) % (6 : Int32)) + (1 : Int32))), .val (.int (if (vpick &&& (64 : Int32)) = (0 : Int32) then ((((vlens.toUInt32 >>> ((3 : Int32) &&& 31).toUInt32).toInt32) % (6 : Int32)) + (1 : Int32)) else (((vlens &&& (2147483647 : Int32)) % (6 : Int32)) + (1 : Int32)))), .val (.int (vssid &&& (15 : Int32))), .unset, .unset, .unset, .unset, .unset, .unset, .unset, .unset] [(.int (vssid &&& (15 : Int32)))])) t → Steps p.tables e below (s₁.setTop (entryFrame m #[(.long vs), (.long vt_), (.int vlens), (.int vssid), (.int vpick)] maxLocals)) t := by
        intro t kt
        refine pre50 t ?_
        show Steps p.tables e below (T46.setTop (mkF m 208 #[.val (.long vs), .second, .val (.long vt_), .second, .val (.int vlens), .val (.int vssid), .val (.int vpick), .val (.int xa0), .val (.int xa1), .val (.int xa2), .val (.int xa3), .val (.int xa4), .val (.int xa5), .val (.int xb0), .val (.int xb1), .val (.int xb2), .val (.int xb3), .val (.int xb4), .val (.int xb5), .val (.int (((vlens &&& (2147483647 : Int32)) % (6 : Int32)) + (1 : Int32))), .val (.int (if (vpick &&& (64 : Int32)) = (0 : Int32) then ((((vlens.toUInt32 >>> ((3 : Int32) &&& 31).toUInt32).toInt32) % (6 : Int32)) + (1 : Int32)) else (((vlens &&& (2147483647 : Int32)) % (6 : Int32)) + (1 : Int32)))), .val (.int (vssid &&& (15 : Int32))), .unset, .unset, .unset, .unset, .unset, .unset, .unset, .unset] [(.int (vpick &&& (128 : Int32)))])) _
        refine XS.ifNo X46.here hx rfl (hb hby at_208) rfl ((if0 _ _).trans (feq (hc52 : ¬ ((vpick &&& (128 : Int32)) = (0 : Int32)))).1) ?_
        show Steps p.tables e below (T46.setTop (mkF m 211 #[.val (.long vs), .second, .val (.long vt_), .second, .val (.int vlens), .val (.int vssid), .val (.int vpick), .val (.int xa0), .val (.int xa1), .val (.int xa2), .val (.int xa3), .val (.int xa4), .val (.int xa5), .val (.int xb0), .val (.int xb1), .val (.int xb2), .val (.int xb3), .val (.int xb4), .val (.int xb5), .val (.int (((vlens &&& (2147483647 : Int32)) % (6 : Int32)) + (1 : Int32))), .val (.int (if (vpick &&& (64 : Int32)) = (0 : Int32) then ((((vlens.toUInt32 >>> ((3 : Int32) &&& 31).toUInt32).toInt32) % (6 : Int32)) + (1 : Int32)) else (((vlens &&& (2147483647 : Int32)) % (6 : Int32)) + (1 : Int32)))), .val (.int (vssid &&& (15 : Int32))), .unset, .unset, .unset, .unset, .unset, .unset, .unset, .unset] [])) _
        refine XS.iload X46.here hx rfl (hb hby at_211) rfl ?_
        show Steps p.tables e below (T46.setTop (mkF m 213 #[.val (.long vs), .second, .val (.long vt_), .second, .val (.int vlens), .val (.int vssid), .val (.int vpick), .val (.int xa0), .val (.int xa1), .val (.int xa2), .val (.int xa3), .val (.int xa4), .val (.int xa5), .val (.int xb0), .val (.int xb1), .val (.int xb2), .val (.int xb3), .val (.int xb4), .val (.int xb5), .val (.int (((vlens &&& (2147483647 : Int32)) % (6 : Int32)) + (1 : Int32))), .val (.int (if (vpick &&& (64 : Int32)) = (0 : Int32) then ((((vlens.toUInt32 >>> ((3 : Int32) &&& 31).toUInt32).toInt32) % (6 : Int32)) + (1 : Int32)) else (((vlens &&& (2147483647 : Int32)) % (6 : Int32)) + (1 : Int32)))), .val (.int (vssid &&& (15 : Int32))), .unset, .unset, .unset, .unset, .unset, .unset, .unset, .unset] [(.int (vssid &&& (15 : Int32)))])) _
        refine XS.goto X46.here hx rfl (pc0 := 213) (pc' := 223) rfl (hb hby at_213) (by decide) (by decide) ?_
        exact kt
      exact ⟨T46, _, X46, e46, N46, fun t kt => by
        simp only [if_neg hc52] at kt
        exact pre54 t kt⟩
  have pre55 : ∀ t, Steps p.tables e below (T51.setTop (mkF m 225 #[.val (.long vs), .second, .val (.long vt_), .second, .val (.int vlens), .val (.int vssid), .val (.int vpick), .val (.int xa0), .val (.int xa1), .val (.int xa2), .val (.int xa3), .val (.int xa4), .val (.int xa5), .val (.int xb0), .val (.int xb1), .val (.int xb2), .val (.int xb3), .val (.int xb4), .val (.int xb5), .val (.int (((vlens &&& (2147483647 : Int32)) % (6 : Int32)) + (1 : Int32))), .val (.int (if (vpick &&& (64 : Int32)) = (0 : Int32) then ((((vlens.toUInt32 >>> ((3 : Int32) &&& 31).toUInt32).toInt32) % (6 : Int32)) + (1 : Int32)) else (((vlens &&& (2147483647 : Int32)) % (6 : Int32)) + (1 : Int32)))), .val (.int (vssid &&& (15 : Int32))), .val (.int (if (vpick &&& (128 : Int32)) = (0 : Int32) then (((vssid.toUInt32 >>> ((4 : Int32) &&& 31).toUInt32).toInt32) &&& (15 : Int32)) else (vssid &&& (15 : Int32)))), .unset, .unset, .unset, .unset, .unset, .unset, .unset] [])) t → Steps p.tables e below (s₁.setTop (entryFrame m #[(.long vs), (.long vt_), (.int vlens), (.int vssid), (.int vpick)] maxLocals)) t := by
    intro t kt
    refine pre51 t ?_
    show Steps p.tables e below (T51.setTop (mkF m 223 #[.val (.long vs), .second, .val (.long vt_), .second, .val (.int vlens), .val (.int vssid), .val (.int vpick), .val (.int xa0), .val (.int xa1), .val (.int xa2), .val (.int xa3), .val (.int xa4), .val (.int xa5), .val (.int xb0), .val (.int xb1), .val (.int xb2), .val (.int xb3), .val (.int xb4), .val (.int xb5), .val (.int (((vlens &&& (2147483647 : Int32)) % (6 : Int32)) + (1 : Int32))), .val (.int (if (vpick &&& (64 : Int32)) = (0 : Int32) then ((((vlens.toUInt32 >>> ((3 : Int32) &&& 31).toUInt32).toInt32) % (6 : Int32)) + (1 : Int32)) else (((vlens &&& (2147483647 : Int32)) % (6 : Int32)) + (1 : Int32)))), .val (.int (vssid &&& (15 : Int32))), .unset, .unset, .unset, .unset, .unset, .unset, .unset, .unset] [(.int (if (vpick &&& (128 : Int32)) = (0 : Int32) then (((vssid.toUInt32 >>> ((4 : Int32) &&& 31).toUInt32).toInt32) &&& (15 : Int32)) else (vssid &&& (15 : Int32))))])) _
    refine XS.istore X51.here hx rfl (hb hby at_223) rfl (l' := #[.val (.long vs), .second, .val (.long vt_), .second, .val (.int vlens), .val (.int vssid), .val (.int vpick), .val (.int xa0), .val (.int xa1), .val (.int xa2), .val (.int xa3), .val (.int xa4), .val (.int xa5), .val (.int xb0), .val (.int xb1), .val (.int xb2), .val (.int xb3), .val (.int xb4), .val (.int xb5), .val (.int (((vlens &&& (2147483647 : Int32)) % (6 : Int32)) + (1 : Int32))), .val (.int (if (vpick &&& (64 : Int32)) = (0 : Int32) then ((((vlens.toUInt32 >>> ((3 : Int32) &&& 31).toUInt32).toInt32) % (6 : Int32)) + (1 : Int32)) else (((vlens &&& (2147483647 : Int32)) % (6 : Int32)) + (1 : Int32)))), .val (.int (vssid &&& (15 : Int32))), .val (.int (if (vpick &&& (128 : Int32)) = (0 : Int32) then (((vssid.toUInt32 >>> ((4 : Int32) &&& 31).toUInt32).toInt32) &&& (15 : Int32)) else (vssid &&& (15 : Int32)))), .unset, .unset, .unset, .unset, .unset, .unset, .unset]) rfl ?_
    exact kt
  obtain ⟨sB, hsB⟩ : ∃ z : Int32, z = (if (vpick &&& (128 : Int32)) = (0 : Int32) then (((vssid.toUInt32 >>> ((4 : Int32) &&& 31).toUInt32).toInt32) &&& (15 : Int32)) else (vssid &&& (15 : Int32))) := ⟨_, rfl⟩
  rw [← hsB] at pre55
  obtain ⟨sA, hsA⟩ : ∃ z : Int32, z = (vssid &&& (15 : Int32)) := ⟨_, rfl⟩
  rw [← hsA] at pre55
  obtain ⟨lB, hlB⟩ : ∃ z : Int32, z = (if (vpick &&& (64 : Int32)) = (0 : Int32) then ((((vlens.toUInt32 >>> ((3 : Int32) &&& 31).toUInt32).toInt32) % (6 : Int32)) + (1 : Int32)) else (((vlens &&& (2147483647 : Int32)) % (6 : Int32)) + (1 : Int32))) := ⟨_, rfl⟩
  rw [← hlB] at pre55
  obtain ⟨lA, hlA⟩ : ∃ z : Int32, z = (((vlens &&& (2147483647 : Int32)) % (6 : Int32)) + (1 : Int32)) := ⟨_, rfl⟩
  rw [← hlA] at pre55
  obtain ⟨nA, a1n, a6n, rfl⟩ := own_len hlA
  obtain ⟨nB, b1n, b6n, rfl⟩ := own_lenB hlB
  have sA2 := own_ss hsA
  have sB2 := own_ssB hsB
  have okA : ∀ c ∈ ([nar .char xa0, nar .char xa1, nar .char xa2, nar .char xa3, nar .char xa4, nar .char xa5] : List Int32), own_okc c := own_okl oa0 oa1 oa2 oa3 oa4 oa5
  have okB : ∀ c ∈ ([nar .char xb0, nar .char xb1, nar .char xb2, nar .char xb3, nar .char xb4, nar .char xb5] : List Int32), own_okc c := own_okl ob0 ob1 ob2 ob3 ob4 ob5
  have lnA : (List.take nA ([nar .char xa0, nar .char xa1, nar .char xa2, nar .char xa3, nar .char xa4, nar .char xa5] : List Int32)).length = nA := own_tl a6n
  have lnB : (List.take nB ([nar .char xb0, nar .char xb1, nar .char xb2, nar .char xb3, nar .char xb4, nar .char xb5] : List Int32)).length = nB := own_tl b6n
  obtain ⟨_, _, ⟨T56, L56, k56, n56⟩, -, X56, ⟨Lc56, hQ56, l56, y56, z56⟩, st56⟩ := Jvm.LawKit.callS X51 hx (y := (⟨"com/example/packet_radio_link/packetradiolink/frame/AddressEqualsPinLaw", "str", "(CCCCCCI)Ljava/lang/String;"⟩ : MethodName)) hown (mvT hZ (hw _ (List.mem_of_getElem? (i := 6) rfl))) (mvT hZ (hw _ (List.mem_of_getElem? (i := 7) rfl))) (mvT hZ (hw _ (List.mem_of_getElem? (i := 2) rfl))) (mvT hZ (hw _ (List.mem_of_getElem? (i := 8) rfl))) (by decide) (backOf (W := 0) (rm2 l Z a0 hw [] xa0 xa1 xa2 xa3 xa4 xa5 nA vz h0 n0 Z0 S_cs hcs (fun c hc => own_ok255 (okA c hc)) a1n a6n) hZ (hw _ (List.mem_of_getElem? (i := 8) rfl)) (hw _ (List.mem_of_getElem? (i := 2) rfl)) (by decide) (by decide)) (g := (mkF m 239 #[.val (.long vs), .second, .val (.long vt_), .second, .val (.int vlens), .val (.int vssid), .val (.int vpick), .val (.int xa0), .val (.int xa1), .val (.int xa2), .val (.int xa3), .val (.int xa4), .val (.int xa5), .val (.int xb0), .val (.int xb1), .val (.int xb2), .val (.int xb3), .val (.int xb4), .val (.int xb5), .val (.int (Int32.ofNat nA)), .val (.int (Int32.ofNat nB)), .val (.int sA), .val (.int sB), .unset, .unset, .unset, .unset, .unset, .unset, .unset] [(.int (Int32.ofNat nA)), (.int xa5), (.int xa4), (.int xa3), (.int xa2), (.int xa1), (.int xa0)])) rfl (by rw [hml]; rfl) (argsL := [(.int xa0), (.int xa1), (.int xa2), (.int xa3), (.int xa4), (.int xa5), (.int (Int32.ofNat nA))]) (rest := []) (lenOf pd_7 rfl) rfl (by show 2 * 0 + _ ≤ _; exact Nat.le_of_eq rfl) (hb hby at_239) (fun _ _ => ⟨rfl, e51, (by decide : 0 + 3 ≤ _), (by decide : 0 + 16 ≤ _)⟩)
  dsimp only [Pt.U, Pt.locs, Pt.cells, Pt.slots] at X56 l56 y56 z56 st56 hQ56
  subst l56 y56 z56
  obtain ⟨⟨xA, tA, kbA, rfl, szxA, sztA, ntA, ExA, FcA, FvA, VbA⟩, N56q, K56q⟩ := hQ56
  have N56 := Fr.app N51 N56q
  have Z56 : n0 ≤ T56.heap.size := Nat.le_trans Z0 K56q.1
  have K56 : Keep h0 T56.heap [] := (Keep.refl h0 []).trans K56q all0
  obtain ⟨_, _, ⟨T57, L57, k57, n57⟩, -, X57, ⟨Lc57, hQ57, l57, y57, z57⟩, st57⟩ := Jvm.LawKit.callS X56 hx (y := (⟨"com/example/packet_radio_link/packetradiolink/frame/AddressEqualsPinLaw", "str", "(CCCCCCI)Ljava/lang/String;"⟩ : MethodName)) hown (mvT hZ (hw _ (List.mem_of_getElem? (i := 6) rfl))) (mvT hZ (hw _ (List.mem_of_getElem? (i := 7) rfl))) (mvT hZ (hw _ (List.mem_of_getElem? (i := 2) rfl))) (mvT hZ (hw _ (List.mem_of_getElem? (i := 8) rfl))) (by decide) (backOf (W := 0) (rm2 l Z a0 hw [] xb0 xb1 xb2 xb3 xb4 xb5 nB vz T56.heap n0 Z56 (own_sta_keep S_cs K56) hcs (fun c hc => own_ok255 (okB c hc)) b1n b6n) hZ (hw _ (List.mem_of_getElem? (i := 8) rfl)) (hw _ (List.mem_of_getElem? (i := 2) rfl)) (by decide) (by decide)) (g := (mkF m 258 #[.val (.long vs), .second, .val (.long vt_), .second, .val (.int vlens), .val (.int vssid), .val (.int vpick), .val (.int xa0), .val (.int xa1), .val (.int xa2), .val (.int xa3), .val (.int xa4), .val (.int xa5), .val (.int xb0), .val (.int xb1), .val (.int xb2), .val (.int xb3), .val (.int xb4), .val (.int xb5), .val (.int (Int32.ofNat nA)), .val (.int (Int32.ofNat nB)), .val (.int sA), .val (.int sB), .val (.ref xA), .unset, .unset, .unset, .unset, .unset, .unset] [(.int (Int32.ofNat nB)), (.int xb5), (.int xb4), (.int xb3), (.int xb2), (.int xb1), (.int xb0)])) rfl (by rw [hml]; rfl) (argsL := [(.int xb0), (.int xb1), (.int xb2), (.int xb3), (.int xb4), (.int xb5), (.int (Int32.ofNat nB))]) (rest := []) (lenOf pd_7 rfl) rfl (by show 2 * 0 + _ ≤ _; exact Nat.le_of_eq rfl) (hb hby at_258) (fun _ _ => ⟨rfl, rfl, (by decide : 3 + 3 ≤ _), (by decide : 16 + 16 ≤ _)⟩)
  dsimp only [Pt.U, Pt.locs, Pt.cells, Pt.slots] at X57 l57 y57 z57 st57 hQ57
  subst l57 y57 z57
  obtain ⟨⟨xB, tB, kbB, rfl, szxB, sztB, ntB, ExB, FcB, FvB, VbB⟩, N57q, K57q⟩ := hQ57
  have N57 := Fr.app N56 N57q
  have Z57 : n0 ≤ T57.heap.size := Nat.le_trans Z56 K57q.1
  have c58 : Exa Z T57.heap xA "java/lang/String" := ExA.keep K57q
  have c59 : Fld Z T57.heap xA "java/lang/String" "coder" "B" (.int (0 : Int32)) := FcA.keep K57q nin0
  have c60 : Fld Z T57.heap xA "java/lang/String" "value" "[B" (.ref tA) := FvA.keep K57q nin0
  have c61 : Arv Z T57.heap tA kbA .byte (Int32.ofNat nA) (List.map Value.int (List.map (fun c => c.toInt8.toInt32) (List.take nA ([nar .char xa0, nar .char xa1, nar .char xa2, nar .char xa3, nar .char xa4, nar .char xa5] : List Int32)))) (.int (0 : Int32)) := VbA.keep K57q nin0
  have K57 : Keep h0 T57.heap [] := K56.trans K57q all0
  have nexB_xA : xA ≠ xB := Nat.ne_of_lt (Nat.lt_of_lt_of_le FvA.lt szxB)
  have netB_xA : xA ≠ tB := Nat.ne_of_lt (Nat.lt_of_lt_of_le FvA.lt sztB)
  have nexB_tA : tA ≠ xB := Nat.ne_of_lt (Nat.lt_of_lt_of_le VbA.lt szxB)
  have netB_tA : tA ≠ tB := Nat.ne_of_lt (Nat.lt_of_lt_of_le VbA.lt sztB)
  obtain ⟨T62, h62, X62, e62, E62, A62, D62, -, st62⟩ := newO X57 hx hZ hown (hw _ (List.mem_of_getElem? (i := 39) rfl)) (hw _ (List.mem_of_getElem? (i := 40) rfl)) (hw _ (List.mem_of_getElem? (i := 41) rfl)) rfl (g := (mkF m 263 #[.val (.long vs), .second, .val (.long vt_), .second, .val (.int vlens), .val (.int vssid), .val (.int vpick), .val (.int xa0), .val (.int xa1), .val (.int xa2), .val (.int xa3), .val (.int xa4), .val (.int xa5), .val (.int xb0), .val (.int xb1), .val (.int xb2), .val (.int xb3), .val (.int xb4), .val (.int xb5), .val (.int (Int32.ofNat nA)), .val (.int (Int32.ofNat nB)), .val (.int sA), .val (.int sB), .val (.ref xA), .val (.ref xB), .unset, .unset, .unset, .unset, .unset] [])) rfl (hb hby at_263) (by decide) (by decide)
  obtain ⟨b62, g62⟩ : ∃ z, z = T57.heap.size := ⟨_, rfl⟩
  rw [← g62] at A62 D62 st62
  have ne63 : xA ≠ b62 := Nat.ne_of_lt (Nat.lt_of_lt_of_le c58.lt (Nat.le_of_eq g62.symm))
  have ne64 : tA ≠ b62 := Nat.ne_of_lt (Nat.lt_of_lt_of_le c61.lt (Nat.le_of_eq g62.symm))
  have ne65 : xB ≠ b62 := Nat.ne_of_lt (Nat.lt_of_lt_of_le ExB.lt (Nat.le_of_eq g62.symm))
  have ne66 : tB ≠ b62 := Nat.ne_of_lt (Nat.lt_of_lt_of_le VbB.lt (Nat.le_of_eq g62.symm))
  have c67 : Exa Z h62 xA "java/lang/String" := c58.ext E62
  have c68 : Fld Z h62 xA "java/lang/String" "coder" "B" (.int (0 : Int32)) := c59.ext E62
  have c69 : Fld Z h62 xA "java/lang/String" "value" "[B" (.ref tA) := c60.ext E62
  have c70 : Arv Z h62 tA kbA .byte (Int32.ofNat nA) (List.map Value.int (List.map (fun c => c.toInt8.toInt32) (List.take nA ([nar .char xa0, nar .char xa1, nar .char xa2, nar .char xa3, nar .char xa4, nar .char xa5] : List Int32)))) (.int (0 : Int32)) := c61.ext E62
  have c71 : Exa Z h62 xB "java/lang/String" := ExB.ext E62
  have c72 : Fld Z h62 xB "java/lang/String" "coder" "B" (.int (0 : Int32)) := FcB.ext E62
  have c73 : Fld Z h62 xB "java/lang/String" "value" "[B" (.ref tB) := FvB.ext E62
  have c74 : Arv Z h62 tB kbB .byte (Int32.ofNat nB) (List.map Value.int (List.map (fun c => c.toInt8.toInt32) (List.take nB ([nar .char xb0, nar .char xb1, nar .char xb2, nar .char xb3, nar .char xb4, nar .char xb5] : List Int32)))) (.int (0 : Int32)) := VbB.ext E62
  have g_b62 : n0 ≤ b62 := Nat.le_trans Z57 (Nat.le_of_eq g62.symm)
  have sz_b62 : h0.size ≤ b62 := Nat.le_trans K57.1 (Nat.le_of_eq g62.symm)
  have Z62 : n0 ≤ h62.size := Nat.le_trans Z57 E62.1
  have K62 : Keep h0 h62 [] := K57.ext E62
  have F62_characters : Fld Z h62 b62 "com/example/packet_radio_link/packetradiolink/frame/Address" "characters" "J" (.long (0 : Int64)) := D62 (Or.inr (hw _ (List.mem_of_getElem? (i := 90) rfl))) (ty := .long) (by decide)
  have F62_ssid : Fld Z h62 b62 "com/example/packet_radio_link/packetradiolink/frame/Address" "ssid" "I" (.int (0 : Int32)) := D62 (Or.inr (hw _ (List.mem_of_getElem? (i := 92) rfl))) (ty := .int) (by decide)
  obtain ⟨_, _, ⟨T75, L75, k75, n75⟩, -, X75, ⟨Lc75, hQ75, l75, y75, z75⟩, st75⟩ := X62.specialBack hx (y := (⟨"com/example/packet_radio_link/packetradiolink/frame/Address", "<init>", "(Ljava/lang/String;I)V"⟩ : MethodName)) rfl hown (mvT hZ (hw _ (List.mem_of_getElem? (i := 42) rfl))) (mvT hZ (hw _ (List.mem_of_getElem? (i := 43) rfl))) (mvT hZ (hw _ (List.mem_of_getElem? (i := 44) rfl))) (by decide) (backOf (W := 1) (rm9 l Z a0 hw [] b62 xA sA tA kbA (Int32.ofNat nA) (List.take nA ([nar .char xa0, nar .char xa1, nar .char xa2, nar .char xa3, nar .char xa4, nar .char xa5] : List Int32)) vz fm h62 n0 Z62 A62 F62_characters F62_ssid c67 c69 c68 c70 (own_sta_keep S_cs K62) (own_sta_keep S_fm K62) g_b62 (Ne.symm ne63) (Ne.symm ne64) (StrChars.Road.codOf lnA (fun x hx => ((fun c hc => own_ok255 (okA c (List.mem_of_mem_take hc))) x hx).2)) (own_up _ (fun c hc => own_ok255 (okA c (List.mem_of_mem_take hc)))) hcs rfm (by rw [lnA]; omega) (by rw [lnA]; omega) (by rw [lnA]; omega) (own_hok okA lnA) sA2.1 sA2.2) hZ (hw _ (List.mem_of_getElem? (i := 44) rfl)) (hw _ (List.mem_of_getElem? (i := 41) rfl)) (by decide) (by decide)) (g := (mkF m 271 #[.val (.long vs), .second, .val (.long vt_), .second, .val (.int vlens), .val (.int vssid), .val (.int vpick), .val (.int xa0), .val (.int xa1), .val (.int xa2), .val (.int xa3), .val (.int xa4), .val (.int xa5), .val (.int xb0), .val (.int xb1), .val (.int xb2), .val (.int xb3), .val (.int xb4), .val (.int xb5), .val (.int (Int32.ofNat nA)), .val (.int (Int32.ofNat nB)), .val (.int sA), .val (.int sB), .val (.ref xA), .val (.ref xB), .unset, .unset, .unset, .unset, .unset] [(.int sA), (.ref xA), (.ref b62), (.ref b62)])) rfl (by rw [hml]; rfl) (Steps.refl _) (a := b62) (argsL := [(.ref xA), (.int sA)]) (rest := [(.ref b62)]) (lenOf pd_8 rfl) rfl (by show 2 * 0 + _ ≤ _; exact Nat.le_of_eq rfl) (hb hby at_271) (fun _ _ => ⟨rfl, e62, (by decide : 7 + 0 ≤ _), (by decide : 34 + 0 ≤ _)⟩)
  dsimp only [Pt.U, Pt.locs, Pt.cells, Pt.slots] at X75 l75 y75 z75 st75 hQ75
  subst l75 y75 z75
  obtain ⟨rfl, N75q, K75q, f75_0, f75_1, f75_2⟩ := hQ75
  have N75 := Fr.app N57 N75q
  have Z75 : n0 ≤ T75.heap.size := Nat.le_trans Z62 K75q.1
  have c76 : Exa Z T75.heap xA "java/lang/String" := c67.keep K75q
  have c77 : Fld Z T75.heap xA "java/lang/String" "coder" "B" (.int (0 : Int32)) := c68.keep K75q (ninS ne63 nin0)
  have c78 : Fld Z T75.heap xA "java/lang/String" "value" "[B" (.ref tA) := c69.keep K75q (ninS ne63 nin0)
  have c79 : Arv Z T75.heap tA kbA .byte (Int32.ofNat nA) (List.map Value.int (List.map (fun c => c.toInt8.toInt32) (List.take nA ([nar .char xa0, nar .char xa1, nar .char xa2, nar .char xa3, nar .char xa4, nar .char xa5] : List Int32)))) (.int (0 : Int32)) := c70.keep K75q (ninS ne64 nin0)
  have c80 : Exa Z T75.heap xB "java/lang/String" := c71.keep K75q
  have c81 : Fld Z T75.heap xB "java/lang/String" "coder" "B" (.int (0 : Int32)) := c72.keep K75q (ninS ne65 nin0)
  have c82 : Fld Z T75.heap xB "java/lang/String" "value" "[B" (.ref tB) := c73.keep K75q (ninS ne65 nin0)
  have c83 : Arv Z T75.heap tB kbB .byte (Int32.ofNat nB) (List.map Value.int (List.map (fun c => c.toInt8.toInt32) (List.take nB ([nar .char xb0, nar .char xb1, nar .char xb2, nar .char xb3, nar .char xb4, nar .char xb5] : List Int32)))) (.int (0 : Int32)) := c74.keep K75q (ninS ne66 nin0)
  have c84 : Exa Z T75.heap b62 "com/example/packet_radio_link/packetradiolink/frame/Address" := A62.keep K75q
  have K75 : Keep h0 T75.heap [] := K62.trans K75q (allS (Or.inr sz_b62) all0)
  obtain ⟨T85, h85, X85, e85, E85, A85, D85, -, st85⟩ := newO X75 hx hZ hown (hw _ (List.mem_of_getElem? (i := 39) rfl)) (hw _ (List.mem_of_getElem? (i := 40) rfl)) (hw _ (List.mem_of_getElem? (i := 41) rfl)) rfl (g := (mkF m 276 #[.val (.long vs), .second, .val (.long vt_), .second, .val (.int vlens), .val (.int vssid), .val (.int vpick), .val (.int xa0), .val (.int xa1), .val (.int xa2), .val (.int xa3), .val (.int xa4), .val (.int xa5), .val (.int xb0), .val (.int xb1), .val (.int xb2), .val (.int xb3), .val (.int xb4), .val (.int xb5), .val (.int (Int32.ofNat nA)), .val (.int (Int32.ofNat nB)), .val (.int sA), .val (.int sB), .val (.ref xA), .val (.ref xB), .val (.ref b62), .unset, .unset, .unset, .unset] [])) rfl (hb hby at_276) (by decide) (by decide)
  obtain ⟨b85, g85⟩ : ∃ z, z = T75.heap.size := ⟨_, rfl⟩
  rw [← g85] at A85 D85 st85
  have ne86 : xA ≠ b85 := Nat.ne_of_lt (Nat.lt_of_lt_of_le c76.lt (Nat.le_of_eq g85.symm))
  have ne87 : tA ≠ b85 := Nat.ne_of_lt (Nat.lt_of_lt_of_le c79.lt (Nat.le_of_eq g85.symm))
  have ne88 : xB ≠ b85 := Nat.ne_of_lt (Nat.lt_of_lt_of_le c80.lt (Nat.le_of_eq g85.symm))
  have ne89 : tB ≠ b85 := Nat.ne_of_lt (Nat.lt_of_lt_of_le c83.lt (Nat.le_of_eq g85.symm))
  have ne90 : b62 ≠ b85 := Nat.ne_of_lt (Nat.lt_of_lt_of_le f75_0.lt (Nat.le_of_eq g85.symm))
  have c91 : Exa Z h85 xA "java/lang/String" := c76.ext E85
  have c92 : Fld Z h85 xA "java/lang/String" "coder" "B" (.int (0 : Int32)) := c77.ext E85
  have c93 : Fld Z h85 xA "java/lang/String" "value" "[B" (.ref tA) := c78.ext E85
  have c94 : Arv Z h85 tA kbA .byte (Int32.ofNat nA) (List.map Value.int (List.map (fun c => c.toInt8.toInt32) (List.take nA ([nar .char xa0, nar .char xa1, nar .char xa2, nar .char xa3, nar .char xa4, nar .char xa5] : List Int32)))) (.int (0 : Int32)) := c79.ext E85
  have c95 : Exa Z h85 xB "java/lang/String" := c80.ext E85
  have c96 : Fld Z h85 xB "java/lang/String" "coder" "B" (.int (0 : Int32)) := c81.ext E85
  have c97 : Fld Z h85 xB "java/lang/String" "value" "[B" (.ref tB) := c82.ext E85
  have c98 : Arv Z h85 tB kbB .byte (Int32.ofNat nB) (List.map Value.int (List.map (fun c => c.toInt8.toInt32) (List.take nB ([nar .char xb0, nar .char xb1, nar .char xb2, nar .char xb3, nar .char xb4, nar .char xb5] : List Int32)))) (.int (0 : Int32)) := c83.ext E85
  have c99 : Exa Z h85 b62 "com/example/packet_radio_link/packetradiolink/frame/Address" := f75_0.ext E85
  have c100 : Fld Z h85 b62 "com/example/packet_radio_link/packetradiolink/frame/Address" "characters" "J" (.long (own_chk (List.take nA ([nar .char xa0, nar .char xa1, nar .char xa2, nar .char xa3, nar .char xa4, nar .char xa5] : List Int32)) 6 0 (0 : Int64))) := f75_1.ext E85
  have c101 : Fld Z h85 b62 "com/example/packet_radio_link/packetradiolink/frame/Address" "ssid" "I" (.int sA) := f75_2.ext E85
  have g_b85 : n0 ≤ b85 := Nat.le_trans Z75 (Nat.le_of_eq g85.symm)
  have sz_b85 : h0.size ≤ b85 := Nat.le_trans K75.1 (Nat.le_of_eq g85.symm)
  have Z85 : n0 ≤ h85.size := Nat.le_trans Z75 E85.1
  have K85 : Keep h0 h85 [] := K75.ext E85
  have F85_characters : Fld Z h85 b85 "com/example/packet_radio_link/packetradiolink/frame/Address" "characters" "J" (.long (0 : Int64)) := D85 (Or.inr (hw _ (List.mem_of_getElem? (i := 90) rfl))) (ty := .long) (by decide)
  have F85_ssid : Fld Z h85 b85 "com/example/packet_radio_link/packetradiolink/frame/Address" "ssid" "I" (.int (0 : Int32)) := D85 (Or.inr (hw _ (List.mem_of_getElem? (i := 92) rfl))) (ty := .int) (by decide)
  obtain ⟨_, _, ⟨T102, L102, k102, n102⟩, -, X102, ⟨Lc102, hQ102, l102, y102, z102⟩, st102⟩ := X85.specialBack hx (y := (⟨"com/example/packet_radio_link/packetradiolink/frame/Address", "<init>", "(Ljava/lang/String;I)V"⟩ : MethodName)) rfl hown (mvT hZ (hw _ (List.mem_of_getElem? (i := 42) rfl))) (mvT hZ (hw _ (List.mem_of_getElem? (i := 43) rfl))) (mvT hZ (hw _ (List.mem_of_getElem? (i := 44) rfl))) (by decide) (backOf (W := 1) (rm9 l Z a0 hw [] b85 xB sB tB kbB (Int32.ofNat nB) (List.take nB ([nar .char xb0, nar .char xb1, nar .char xb2, nar .char xb3, nar .char xb4, nar .char xb5] : List Int32)) vz fm h85 n0 Z85 A85 F85_characters F85_ssid c95 c97 c96 c98 (own_sta_keep S_cs K85) (own_sta_keep S_fm K85) g_b85 (Ne.symm ne88) (Ne.symm ne89) (StrChars.Road.codOf lnB (fun x hx => ((fun c hc => own_ok255 (okB c (List.mem_of_mem_take hc))) x hx).2)) (own_up _ (fun c hc => own_ok255 (okB c (List.mem_of_mem_take hc)))) hcs rfm (by rw [lnB]; omega) (by rw [lnB]; omega) (by rw [lnB]; omega) (own_hok okB lnB) sB2.1 sB2.2) hZ (hw _ (List.mem_of_getElem? (i := 44) rfl)) (hw _ (List.mem_of_getElem? (i := 41) rfl)) (by decide) (by decide)) (g := (mkF m 284 #[.val (.long vs), .second, .val (.long vt_), .second, .val (.int vlens), .val (.int vssid), .val (.int vpick), .val (.int xa0), .val (.int xa1), .val (.int xa2), .val (.int xa3), .val (.int xa4), .val (.int xa5), .val (.int xb0), .val (.int xb1), .val (.int xb2), .val (.int xb3), .val (.int xb4), .val (.int xb5), .val (.int (Int32.ofNat nA)), .val (.int (Int32.ofNat nB)), .val (.int sA), .val (.int sB), .val (.ref xA), .val (.ref xB), .val (.ref b62), .unset, .unset, .unset, .unset] [(.int sB), (.ref xB), (.ref b85), (.ref b85)])) rfl (by rw [hml]; rfl) (Steps.refl _) (a := b85) (argsL := [(.ref xB), (.int sB)]) (rest := [(.ref b85)]) (lenOf pd_8 rfl) rfl (by show 2 * 0 + _ ≤ _; exact Nat.le_of_eq rfl) (hb hby at_284) (fun _ _ => ⟨rfl, e85, (by decide : 8 + 0 ≤ _), (by decide : 36 + 0 ≤ _)⟩)
  dsimp only [Pt.U, Pt.locs, Pt.cells, Pt.slots] at X102 l102 y102 z102 st102 hQ102
  subst l102 y102 z102
  obtain ⟨rfl, N102q, K102q, f102_0, f102_1, f102_2⟩ := hQ102
  have N102 := Fr.app N75 N102q
  have Z102 : n0 ≤ T102.heap.size := Nat.le_trans Z85 K102q.1
  have c103 : Exa Z T102.heap xA "java/lang/String" := c91.keep K102q
  have c104 : Fld Z T102.heap xA "java/lang/String" "coder" "B" (.int (0 : Int32)) := c92.keep K102q (ninS ne86 nin0)
  have c105 : Fld Z T102.heap xA "java/lang/String" "value" "[B" (.ref tA) := c93.keep K102q (ninS ne86 nin0)
  have c106 : Arv Z T102.heap tA kbA .byte (Int32.ofNat nA) (List.map Value.int (List.map (fun c => c.toInt8.toInt32) (List.take nA ([nar .char xa0, nar .char xa1, nar .char xa2, nar .char xa3, nar .char xa4, nar .char xa5] : List Int32)))) (.int (0 : Int32)) := c94.keep K102q (ninS ne87 nin0)
  have c107 : Exa Z T102.heap xB "java/lang/String" := c95.keep K102q
  have c108 : Fld Z T102.heap xB "java/lang/String" "coder" "B" (.int (0 : Int32)) := c96.keep K102q (ninS ne88 nin0)
  have c109 : Fld Z T102.heap xB "java/lang/String" "value" "[B" (.ref tB) := c97.keep K102q (ninS ne88 nin0)
  have c110 : Arv Z T102.heap tB kbB .byte (Int32.ofNat nB) (List.map Value.int (List.map (fun c => c.toInt8.toInt32) (List.take nB ([nar .char xb0, nar .char xb1, nar .char xb2, nar .char xb3, nar .char xb4, nar .char xb5] : List Int32)))) (.int (0 : Int32)) := c98.keep K102q (ninS ne89 nin0)
  have c111 : Exa Z T102.heap b62 "com/example/packet_radio_link/packetradiolink/frame/Address" := c99.keep K102q
  have c112 : Fld Z T102.heap b62 "com/example/packet_radio_link/packetradiolink/frame/Address" "characters" "J" (.long (own_chk (List.take nA ([nar .char xa0, nar .char xa1, nar .char xa2, nar .char xa3, nar .char xa4, nar .char xa5] : List Int32)) 6 0 (0 : Int64))) := c100.keep K102q (ninS ne90 nin0)
  have c113 : Fld Z T102.heap b62 "com/example/packet_radio_link/packetradiolink/frame/Address" "ssid" "I" (.int sA) := c101.keep K102q (ninS ne90 nin0)
  have c114 : Exa Z T102.heap b85 "com/example/packet_radio_link/packetradiolink/frame/Address" := A85.keep K102q
  have K102 : Keep h0 T102.heap [] := K85.trans K102q (allS (Or.inr sz_b85) all0)
  have pre115 : ∀ t, Steps p.tables e below (T102.setTop (mkF m 289 #[.val (.long vs), .second, .val (.long vt_), .second, .val (.int vlens), .val (.int vssid), .val (.int vpick), .val (.int xa0), .val (.int xa1), .val (.int xa2), .val (.int xa3), .val (.int xa4), .val (.int xa5), .val (.int xb0), .val (.int xb1), .val (.int xb2), .val (.int xb3), .val (.int xb4), .val (.int xb5), .val (.int (Int32.ofNat nA)), .val (.int (Int32.ofNat nB)), .val (.int sA), .val (.int sB), .val (.ref xA), .val (.ref xB), .val (.ref b62), .val (.ref b85), .unset, .unset, .unset] [])) t → Steps p.tables e below (s₁.setTop (entryFrame m #[(.long vs), (.long vt_), (.int vlens), (.int vssid), (.int vpick)] maxLocals)) t := by
    intro t kt
    refine pre55 t ?_
    show Steps p.tables e below (T51.setTop (mkF m 225 #[.val (.long vs), .second, .val (.long vt_), .second, .val (.int vlens), .val (.int vssid), .val (.int vpick), .val (.int xa0), .val (.int xa1), .val (.int xa2), .val (.int xa3), .val (.int xa4), .val (.int xa5), .val (.int xb0), .val (.int xb1), .val (.int xb2), .val (.int xb3), .val (.int xb4), .val (.int xb5), .val (.int (Int32.ofNat nA)), .val (.int (Int32.ofNat nB)), .val (.int sA), .val (.int sB), .unset, .unset, .unset, .unset, .unset, .unset, .unset] [])) _
    refine XS.iload X51.here hx rfl (hb hby at_225) rfl ?_
    show Steps p.tables e below (T51.setTop (mkF m 227 #[.val (.long vs), .second, .val (.long vt_), .second, .val (.int vlens), .val (.int vssid), .val (.int vpick), .val (.int xa0), .val (.int xa1), .val (.int xa2), .val (.int xa3), .val (.int xa4), .val (.int xa5), .val (.int xb0), .val (.int xb1), .val (.int xb2), .val (.int xb3), .val (.int xb4), .val (.int xb5), .val (.int (Int32.ofNat nA)), .val (.int (Int32.ofNat nB)), .val (.int sA), .val (.int sB), .unset, .unset, .unset, .unset, .unset, .unset, .unset] [(.int xa0)])) _
    refine XS.iload X51.here hx rfl (hb hby at_227) rfl ?_
    show Steps p.tables e below (T51.setTop (mkF m 229 #[.val (.long vs), .second, .val (.long vt_), .second, .val (.int vlens), .val (.int vssid), .val (.int vpick), .val (.int xa0), .val (.int xa1), .val (.int xa2), .val (.int xa3), .val (.int xa4), .val (.int xa5), .val (.int xb0), .val (.int xb1), .val (.int xb2), .val (.int xb3), .val (.int xb4), .val (.int xb5), .val (.int (Int32.ofNat nA)), .val (.int (Int32.ofNat nB)), .val (.int sA), .val (.int sB), .unset, .unset, .unset, .unset, .unset, .unset, .unset] [(.int xa1), (.int xa0)])) _
    refine XS.iload X51.here hx rfl (hb hby at_229) rfl ?_
    show Steps p.tables e below (T51.setTop (mkF m 231 #[.val (.long vs), .second, .val (.long vt_), .second, .val (.int vlens), .val (.int vssid), .val (.int vpick), .val (.int xa0), .val (.int xa1), .val (.int xa2), .val (.int xa3), .val (.int xa4), .val (.int xa5), .val (.int xb0), .val (.int xb1), .val (.int xb2), .val (.int xb3), .val (.int xb4), .val (.int xb5), .val (.int (Int32.ofNat nA)), .val (.int (Int32.ofNat nB)), .val (.int sA), .val (.int sB), .unset, .unset, .unset, .unset, .unset, .unset, .unset] [(.int xa2), (.int xa1), (.int xa0)])) _
    refine XS.iload X51.here hx rfl (hb hby at_231) rfl ?_
    show Steps p.tables e below (T51.setTop (mkF m 233 #[.val (.long vs), .second, .val (.long vt_), .second, .val (.int vlens), .val (.int vssid), .val (.int vpick), .val (.int xa0), .val (.int xa1), .val (.int xa2), .val (.int xa3), .val (.int xa4), .val (.int xa5), .val (.int xb0), .val (.int xb1), .val (.int xb2), .val (.int xb3), .val (.int xb4), .val (.int xb5), .val (.int (Int32.ofNat nA)), .val (.int (Int32.ofNat nB)), .val (.int sA), .val (.int sB), .unset, .unset, .unset, .unset, .unset, .unset, .unset] [(.int xa3), (.int xa2), (.int xa1), (.int xa0)])) _
    refine XS.iload X51.here hx rfl (hb hby at_233) rfl ?_
    show Steps p.tables e below (T51.setTop (mkF m 235 #[.val (.long vs), .second, .val (.long vt_), .second, .val (.int vlens), .val (.int vssid), .val (.int vpick), .val (.int xa0), .val (.int xa1), .val (.int xa2), .val (.int xa3), .val (.int xa4), .val (.int xa5), .val (.int xb0), .val (.int xb1), .val (.int xb2), .val (.int xb3), .val (.int xb4), .val (.int xb5), .val (.int (Int32.ofNat nA)), .val (.int (Int32.ofNat nB)), .val (.int sA), .val (.int sB), .unset, .unset, .unset, .unset, .unset, .unset, .unset] [(.int xa4), (.int xa3), (.int xa2), (.int xa1), (.int xa0)])) _
    refine XS.iload X51.here hx rfl (hb hby at_235) rfl ?_
    show Steps p.tables e below (T51.setTop (mkF m 237 #[.val (.long vs), .second, .val (.long vt_), .second, .val (.int vlens), .val (.int vssid), .val (.int vpick), .val (.int xa0), .val (.int xa1), .val (.int xa2), .val (.int xa3), .val (.int xa4), .val (.int xa5), .val (.int xb0), .val (.int xb1), .val (.int xb2), .val (.int xb3), .val (.int xb4), .val (.int xb5), .val (.int (Int32.ofNat nA)), .val (.int (Int32.ofNat nB)), .val (.int sA), .val (.int sB), .unset, .unset, .unset, .unset, .unset, .unset, .unset] [(.int xa5), (.int xa4), (.int xa3), (.int xa2), (.int xa1), (.int xa0)])) _
    refine XS.iload X51.here hx rfl (hb hby at_237) rfl ?_
    show Steps p.tables e below (T51.setTop (mkF m 239 #[.val (.long vs), .second, .val (.long vt_), .second, .val (.int vlens), .val (.int vssid), .val (.int vpick), .val (.int xa0), .val (.int xa1), .val (.int xa2), .val (.int xa3), .val (.int xa4), .val (.int xa5), .val (.int xb0), .val (.int xb1), .val (.int xb2), .val (.int xb3), .val (.int xb4), .val (.int xb5), .val (.int (Int32.ofNat nA)), .val (.int (Int32.ofNat nB)), .val (.int sA), .val (.int sB), .unset, .unset, .unset, .unset, .unset, .unset, .unset] [(.int (Int32.ofNat nA)), (.int xa5), (.int xa4), (.int xa3), (.int xa2), (.int xa1), (.int xa0)])) _
    refine st56 _ ?_
    show Steps p.tables e below (T56.setTop (mkF m 242 #[.val (.long vs), .second, .val (.long vt_), .second, .val (.int vlens), .val (.int vssid), .val (.int vpick), .val (.int xa0), .val (.int xa1), .val (.int xa2), .val (.int xa3), .val (.int xa4), .val (.int xa5), .val (.int xb0), .val (.int xb1), .val (.int xb2), .val (.int xb3), .val (.int xb4), .val (.int xb5), .val (.int (Int32.ofNat nA)), .val (.int (Int32.ofNat nB)), .val (.int sA), .val (.int sB), .unset, .unset, .unset, .unset, .unset, .unset, .unset] [(.ref xA)])) _
    refine XS.astore X56.here hx rfl (hb hby at_242) rfl rfl (l' := #[.val (.long vs), .second, .val (.long vt_), .second, .val (.int vlens), .val (.int vssid), .val (.int vpick), .val (.int xa0), .val (.int xa1), .val (.int xa2), .val (.int xa3), .val (.int xa4), .val (.int xa5), .val (.int xb0), .val (.int xb1), .val (.int xb2), .val (.int xb3), .val (.int xb4), .val (.int xb5), .val (.int (Int32.ofNat nA)), .val (.int (Int32.ofNat nB)), .val (.int sA), .val (.int sB), .val (.ref xA), .unset, .unset, .unset, .unset, .unset, .unset]) rfl ?_
    show Steps p.tables e below (T56.setTop (mkF m 244 #[.val (.long vs), .second, .val (.long vt_), .second, .val (.int vlens), .val (.int vssid), .val (.int vpick), .val (.int xa0), .val (.int xa1), .val (.int xa2), .val (.int xa3), .val (.int xa4), .val (.int xa5), .val (.int xb0), .val (.int xb1), .val (.int xb2), .val (.int xb3), .val (.int xb4), .val (.int xb5), .val (.int (Int32.ofNat nA)), .val (.int (Int32.ofNat nB)), .val (.int sA), .val (.int sB), .val (.ref xA), .unset, .unset, .unset, .unset, .unset, .unset] [])) _
    refine XS.iload X56.here hx rfl (hb hby at_244) rfl ?_
    show Steps p.tables e below (T56.setTop (mkF m 246 #[.val (.long vs), .second, .val (.long vt_), .second, .val (.int vlens), .val (.int vssid), .val (.int vpick), .val (.int xa0), .val (.int xa1), .val (.int xa2), .val (.int xa3), .val (.int xa4), .val (.int xa5), .val (.int xb0), .val (.int xb1), .val (.int xb2), .val (.int xb3), .val (.int xb4), .val (.int xb5), .val (.int (Int32.ofNat nA)), .val (.int (Int32.ofNat nB)), .val (.int sA), .val (.int sB), .val (.ref xA), .unset, .unset, .unset, .unset, .unset, .unset] [(.int xb0)])) _
    refine XS.iload X56.here hx rfl (hb hby at_246) rfl ?_
    show Steps p.tables e below (T56.setTop (mkF m 248 #[.val (.long vs), .second, .val (.long vt_), .second, .val (.int vlens), .val (.int vssid), .val (.int vpick), .val (.int xa0), .val (.int xa1), .val (.int xa2), .val (.int xa3), .val (.int xa4), .val (.int xa5), .val (.int xb0), .val (.int xb1), .val (.int xb2), .val (.int xb3), .val (.int xb4), .val (.int xb5), .val (.int (Int32.ofNat nA)), .val (.int (Int32.ofNat nB)), .val (.int sA), .val (.int sB), .val (.ref xA), .unset, .unset, .unset, .unset, .unset, .unset] [(.int xb1), (.int xb0)])) _
    refine XS.iload X56.here hx rfl (hb hby at_248) rfl ?_
    show Steps p.tables e below (T56.setTop (mkF m 250 #[.val (.long vs), .second, .val (.long vt_), .second, .val (.int vlens), .val (.int vssid), .val (.int vpick), .val (.int xa0), .val (.int xa1), .val (.int xa2), .val (.int xa3), .val (.int xa4), .val (.int xa5), .val (.int xb0), .val (.int xb1), .val (.int xb2), .val (.int xb3), .val (.int xb4), .val (.int xb5), .val (.int (Int32.ofNat nA)), .val (.int (Int32.ofNat nB)), .val (.int sA), .val (.int sB), .val (.ref xA), .unset, .unset, .unset, .unset, .unset, .unset] [(.int xb2), (.int xb1), (.int xb0)])) _
    refine XS.iload X56.here hx rfl (hb hby at_250) rfl ?_
    show Steps p.tables e below (T56.setTop (mkF m 252 #[.val (.long vs), .second, .val (.long vt_), .second, .val (.int vlens), .val (.int vssid), .val (.int vpick), .val (.int xa0), .val (.int xa1), .val (.int xa2), .val (.int xa3), .val (.int xa4), .val (.int xa5), .val (.int xb0), .val (.int xb1), .val (.int xb2), .val (.int xb3), .val (.int xb4), .val (.int xb5), .val (.int (Int32.ofNat nA)), .val (.int (Int32.ofNat nB)), .val (.int sA), .val (.int sB), .val (.ref xA), .unset, .unset, .unset, .unset, .unset, .unset] [(.int xb3), (.int xb2), (.int xb1), (.int xb0)])) _
    refine XS.iload X56.here hx rfl (hb hby at_252) rfl ?_
    show Steps p.tables e below (T56.setTop (mkF m 254 #[.val (.long vs), .second, .val (.long vt_), .second, .val (.int vlens), .val (.int vssid), .val (.int vpick), .val (.int xa0), .val (.int xa1), .val (.int xa2), .val (.int xa3), .val (.int xa4), .val (.int xa5), .val (.int xb0), .val (.int xb1), .val (.int xb2), .val (.int xb3), .val (.int xb4), .val (.int xb5), .val (.int (Int32.ofNat nA)), .val (.int (Int32.ofNat nB)), .val (.int sA), .val (.int sB), .val (.ref xA), .unset, .unset, .unset, .unset, .unset, .unset] [(.int xb4), (.int xb3), (.int xb2), (.int xb1), (.int xb0)])) _
    refine XS.iload X56.here hx rfl (hb hby at_254) rfl ?_
    show Steps p.tables e below (T56.setTop (mkF m 256 #[.val (.long vs), .second, .val (.long vt_), .second, .val (.int vlens), .val (.int vssid), .val (.int vpick), .val (.int xa0), .val (.int xa1), .val (.int xa2), .val (.int xa3), .val (.int xa4), .val (.int xa5), .val (.int xb0), .val (.int xb1), .val (.int xb2), .val (.int xb3), .val (.int xb4), .val (.int xb5), .val (.int (Int32.ofNat nA)), .val (.int (Int32.ofNat nB)), .val (.int sA), .val (.int sB), .val (.ref xA), .unset, .unset, .unset, .unset, .unset, .unset] [(.int xb5), (.int xb4), (.int xb3), (.int xb2), (.int xb1), (.int xb0)])) _
    refine XS.iload X56.here hx rfl (hb hby at_256) rfl ?_
    show Steps p.tables e below (T56.setTop (mkF m 258 #[.val (.long vs), .second, .val (.long vt_), .second, .val (.int vlens), .val (.int vssid), .val (.int vpick), .val (.int xa0), .val (.int xa1), .val (.int xa2), .val (.int xa3), .val (.int xa4), .val (.int xa5), .val (.int xb0), .val (.int xb1), .val (.int xb2), .val (.int xb3), .val (.int xb4), .val (.int xb5), .val (.int (Int32.ofNat nA)), .val (.int (Int32.ofNat nB)), .val (.int sA), .val (.int sB), .val (.ref xA), .unset, .unset, .unset, .unset, .unset, .unset] [(.int (Int32.ofNat nB)), (.int xb5), (.int xb4), (.int xb3), (.int xb2), (.int xb1), (.int xb0)])) _
    refine st57 _ ?_
    show Steps p.tables e below (T57.setTop (mkF m 261 #[.val (.long vs), .second, .val (.long vt_), .second, .val (.int vlens), .val (.int vssid), .val (.int vpick), .val (.int xa0), .val (.int xa1), .val (.int xa2), .val (.int xa3), .val (.int xa4), .val (.int xa5), .val (.int xb0), .val (.int xb1), .val (.int xb2), .val (.int xb3), .val (.int xb4), .val (.int xb5), .val (.int (Int32.ofNat nA)), .val (.int (Int32.ofNat nB)), .val (.int sA), .val (.int sB), .val (.ref xA), .unset, .unset, .unset, .unset, .unset, .unset] [(.ref xB)])) _
    refine XS.astore X57.here hx rfl (hb hby at_261) rfl rfl (l' := #[.val (.long vs), .second, .val (.long vt_), .second, .val (.int vlens), .val (.int vssid), .val (.int vpick), .val (.int xa0), .val (.int xa1), .val (.int xa2), .val (.int xa3), .val (.int xa4), .val (.int xa5), .val (.int xb0), .val (.int xb1), .val (.int xb2), .val (.int xb3), .val (.int xb4), .val (.int xb5), .val (.int (Int32.ofNat nA)), .val (.int (Int32.ofNat nB)), .val (.int sA), .val (.int sB), .val (.ref xA), .val (.ref xB), .unset, .unset, .unset, .unset, .unset]) rfl ?_
    show Steps p.tables e below (T57.setTop (mkF m 263 #[.val (.long vs), .second, .val (.long vt_), .second, .val (.int vlens), .val (.int vssid), .val (.int vpick), .val (.int xa0), .val (.int xa1), .val (.int xa2), .val (.int xa3), .val (.int xa4), .val (.int xa5), .val (.int xb0), .val (.int xb1), .val (.int xb2), .val (.int xb3), .val (.int xb4), .val (.int xb5), .val (.int (Int32.ofNat nA)), .val (.int (Int32.ofNat nB)), .val (.int sA), .val (.int sB), .val (.ref xA), .val (.ref xB), .unset, .unset, .unset, .unset, .unset] [])) _
    refine st62 _ ?_
    show Steps p.tables e below (T62.setTop (mkF m 266 #[.val (.long vs), .second, .val (.long vt_), .second, .val (.int vlens), .val (.int vssid), .val (.int vpick), .val (.int xa0), .val (.int xa1), .val (.int xa2), .val (.int xa3), .val (.int xa4), .val (.int xa5), .val (.int xb0), .val (.int xb1), .val (.int xb2), .val (.int xb3), .val (.int xb4), .val (.int xb5), .val (.int (Int32.ofNat nA)), .val (.int (Int32.ofNat nB)), .val (.int sA), .val (.int sB), .val (.ref xA), .val (.ref xB), .unset, .unset, .unset, .unset, .unset] [(.ref b62)])) _
    refine XS.dup X62.here hx rfl (hb hby at_266) rfl rfl ?_
    show Steps p.tables e below (T62.setTop (mkF m 267 #[.val (.long vs), .second, .val (.long vt_), .second, .val (.int vlens), .val (.int vssid), .val (.int vpick), .val (.int xa0), .val (.int xa1), .val (.int xa2), .val (.int xa3), .val (.int xa4), .val (.int xa5), .val (.int xb0), .val (.int xb1), .val (.int xb2), .val (.int xb3), .val (.int xb4), .val (.int xb5), .val (.int (Int32.ofNat nA)), .val (.int (Int32.ofNat nB)), .val (.int sA), .val (.int sB), .val (.ref xA), .val (.ref xB), .unset, .unset, .unset, .unset, .unset] [(.ref b62), (.ref b62)])) _
    refine XS.aload X62.here hx rfl (hb hby at_267) rfl rfl ?_
    show Steps p.tables e below (T62.setTop (mkF m 269 #[.val (.long vs), .second, .val (.long vt_), .second, .val (.int vlens), .val (.int vssid), .val (.int vpick), .val (.int xa0), .val (.int xa1), .val (.int xa2), .val (.int xa3), .val (.int xa4), .val (.int xa5), .val (.int xb0), .val (.int xb1), .val (.int xb2), .val (.int xb3), .val (.int xb4), .val (.int xb5), .val (.int (Int32.ofNat nA)), .val (.int (Int32.ofNat nB)), .val (.int sA), .val (.int sB), .val (.ref xA), .val (.ref xB), .unset, .unset, .unset, .unset, .unset] [(.ref xA), (.ref b62), (.ref b62)])) _
    refine XS.iload X62.here hx rfl (hb hby at_269) rfl ?_
    show Steps p.tables e below (T62.setTop (mkF m 271 #[.val (.long vs), .second, .val (.long vt_), .second, .val (.int vlens), .val (.int vssid), .val (.int vpick), .val (.int xa0), .val (.int xa1), .val (.int xa2), .val (.int xa3), .val (.int xa4), .val (.int xa5), .val (.int xb0), .val (.int xb1), .val (.int xb2), .val (.int xb3), .val (.int xb4), .val (.int xb5), .val (.int (Int32.ofNat nA)), .val (.int (Int32.ofNat nB)), .val (.int sA), .val (.int sB), .val (.ref xA), .val (.ref xB), .unset, .unset, .unset, .unset, .unset] [(.int sA), (.ref xA), (.ref b62), (.ref b62)])) _
    refine st75.trans ?_
    show Steps p.tables e below (T75.setTop (mkF m 274 #[.val (.long vs), .second, .val (.long vt_), .second, .val (.int vlens), .val (.int vssid), .val (.int vpick), .val (.int xa0), .val (.int xa1), .val (.int xa2), .val (.int xa3), .val (.int xa4), .val (.int xa5), .val (.int xb0), .val (.int xb1), .val (.int xb2), .val (.int xb3), .val (.int xb4), .val (.int xb5), .val (.int (Int32.ofNat nA)), .val (.int (Int32.ofNat nB)), .val (.int sA), .val (.int sB), .val (.ref xA), .val (.ref xB), .unset, .unset, .unset, .unset, .unset] [(.ref b62)])) _
    refine XS.astore X75.here hx rfl (hb hby at_274) rfl rfl (l' := #[.val (.long vs), .second, .val (.long vt_), .second, .val (.int vlens), .val (.int vssid), .val (.int vpick), .val (.int xa0), .val (.int xa1), .val (.int xa2), .val (.int xa3), .val (.int xa4), .val (.int xa5), .val (.int xb0), .val (.int xb1), .val (.int xb2), .val (.int xb3), .val (.int xb4), .val (.int xb5), .val (.int (Int32.ofNat nA)), .val (.int (Int32.ofNat nB)), .val (.int sA), .val (.int sB), .val (.ref xA), .val (.ref xB), .val (.ref b62), .unset, .unset, .unset, .unset]) rfl ?_
    show Steps p.tables e below (T75.setTop (mkF m 276 #[.val (.long vs), .second, .val (.long vt_), .second, .val (.int vlens), .val (.int vssid), .val (.int vpick), .val (.int xa0), .val (.int xa1), .val (.int xa2), .val (.int xa3), .val (.int xa4), .val (.int xa5), .val (.int xb0), .val (.int xb1), .val (.int xb2), .val (.int xb3), .val (.int xb4), .val (.int xb5), .val (.int (Int32.ofNat nA)), .val (.int (Int32.ofNat nB)), .val (.int sA), .val (.int sB), .val (.ref xA), .val (.ref xB), .val (.ref b62), .unset, .unset, .unset, .unset] [])) _
    refine st85 _ ?_
    show Steps p.tables e below (T85.setTop (mkF m 279 #[.val (.long vs), .second, .val (.long vt_), .second, .val (.int vlens), .val (.int vssid), .val (.int vpick), .val (.int xa0), .val (.int xa1), .val (.int xa2), .val (.int xa3), .val (.int xa4), .val (.int xa5), .val (.int xb0), .val (.int xb1), .val (.int xb2), .val (.int xb3), .val (.int xb4), .val (.int xb5), .val (.int (Int32.ofNat nA)), .val (.int (Int32.ofNat nB)), .val (.int sA), .val (.int sB), .val (.ref xA), .val (.ref xB), .val (.ref b62), .unset, .unset, .unset, .unset] [(.ref b85)])) _
    refine XS.dup X85.here hx rfl (hb hby at_279) rfl rfl ?_
    show Steps p.tables e below (T85.setTop (mkF m 280 #[.val (.long vs), .second, .val (.long vt_), .second, .val (.int vlens), .val (.int vssid), .val (.int vpick), .val (.int xa0), .val (.int xa1), .val (.int xa2), .val (.int xa3), .val (.int xa4), .val (.int xa5), .val (.int xb0), .val (.int xb1), .val (.int xb2), .val (.int xb3), .val (.int xb4), .val (.int xb5), .val (.int (Int32.ofNat nA)), .val (.int (Int32.ofNat nB)), .val (.int sA), .val (.int sB), .val (.ref xA), .val (.ref xB), .val (.ref b62), .unset, .unset, .unset, .unset] [(.ref b85), (.ref b85)])) _
    refine XS.aload X85.here hx rfl (hb hby at_280) rfl rfl ?_
    show Steps p.tables e below (T85.setTop (mkF m 282 #[.val (.long vs), .second, .val (.long vt_), .second, .val (.int vlens), .val (.int vssid), .val (.int vpick), .val (.int xa0), .val (.int xa1), .val (.int xa2), .val (.int xa3), .val (.int xa4), .val (.int xa5), .val (.int xb0), .val (.int xb1), .val (.int xb2), .val (.int xb3), .val (.int xb4), .val (.int xb5), .val (.int (Int32.ofNat nA)), .val (.int (Int32.ofNat nB)), .val (.int sA), .val (.int sB), .val (.ref xA), .val (.ref xB), .val (.ref b62), .unset, .unset, .unset, .unset] [(.ref xB), (.ref b85), (.ref b85)])) _
    refine XS.iload X85.here hx rfl (hb hby at_282) rfl ?_
    show Steps p.tables e below (T85.setTop (mkF m 284 #[.val (.long vs), .second, .val (.long vt_), .second, .val (.int vlens), .val (.int vssid), .val (.int vpick), .val (.int xa0), .val (.int xa1), .val (.int xa2), .val (.int xa3), .val (.int xa4), .val (.int xa5), .val (.int xb0), .val (.int xb1), .val (.int xb2), .val (.int xb3), .val (.int xb4), .val (.int xb5), .val (.int (Int32.ofNat nA)), .val (.int (Int32.ofNat nB)), .val (.int sA), .val (.int sB), .val (.ref xA), .val (.ref xB), .val (.ref b62), .unset, .unset, .unset, .unset] [(.int sB), (.ref xB), (.ref b85), (.ref b85)])) _
    refine st102.trans ?_
    show Steps p.tables e below (T102.setTop (mkF m 287 #[.val (.long vs), .second, .val (.long vt_), .second, .val (.int vlens), .val (.int vssid), .val (.int vpick), .val (.int xa0), .val (.int xa1), .val (.int xa2), .val (.int xa3), .val (.int xa4), .val (.int xa5), .val (.int xb0), .val (.int xb1), .val (.int xb2), .val (.int xb3), .val (.int xb4), .val (.int xb5), .val (.int (Int32.ofNat nA)), .val (.int (Int32.ofNat nB)), .val (.int sA), .val (.int sB), .val (.ref xA), .val (.ref xB), .val (.ref b62), .unset, .unset, .unset, .unset] [(.ref b85)])) _
    refine XS.astore X102.here hx rfl (hb hby at_287) rfl rfl (l' := #[.val (.long vs), .second, .val (.long vt_), .second, .val (.int vlens), .val (.int vssid), .val (.int vpick), .val (.int xa0), .val (.int xa1), .val (.int xa2), .val (.int xa3), .val (.int xa4), .val (.int xa5), .val (.int xb0), .val (.int xb1), .val (.int xb2), .val (.int xb3), .val (.int xb4), .val (.int xb5), .val (.int (Int32.ofNat nA)), .val (.int (Int32.ofNat nB)), .val (.int sA), .val (.int sB), .val (.ref xA), .val (.ref xB), .val (.ref b62), .val (.ref b85), .unset, .unset, .unset]) rfl ?_
    exact kt
  obtain ⟨T116, L116, X116, e116, N116, pre116⟩ : ∃ (Tm : State) (Lm : List Loc), Stand p l e room_1 s m #[(.long vs), (.long vt_), (.int vlens), (.int vssid), (.int vpick)] below meth c Tm Lm 8 36 ∧ Tm.heap = T102.heap ∧ Fr n0 Lm ∧ ∀ t, Steps p.tables e below (Tm.setTop (mkF m 381 #[.val (.long vs), .second, .val (.long vt_), .second, .val (.int vlens), .val (.int vssid), .val (.int vpick), .val (.int xa0), .val (.int xa1), .val (.int xa2), .val (.int xa3), .val (.int xa4), .val (.int xa5), .val (.int xb0), .val (.int xb1), .val (.int xb2), .val (.int xb3), .val (.int xb4), .val (.int xb5), .val (.int (Int32.ofNat nA)), .val (.int (Int32.ofNat nB)), .val (.int sA), .val (.int sB), .val (.ref xA), .val (.ref xB), .val (.ref b62), .val (.ref b85), .unset, .unset, .unset] [(.int (own_same (Int32.ofNat nA) (Int32.ofNat nB) sA sB xa0 xa1 xa2 xa3 xa4 xa5 xb0 xb1 xb2 xb3 xb4 xb5))])) t → Steps p.tables e below (s₁.setTop (entryFrame m #[(.long vs), (.long vt_), (.int vlens), (.int vssid), (.int vpick)] maxLocals)) t := by
    rcases own_six6 a1n a6n with rfl | rfl | rfl | rfl | rfl | rfl
    ·
      have pre116_1 : ∀ t, Steps p.tables e below (T102.setTop (mkF m 289 #[.val (.long vs), .second, .val (.long vt_), .second, .val (.int vlens), .val (.int vssid), .val (.int vpick), .val (.int xa0), .val (.int xa1), .val (.int xa2), .val (.int xa3), .val (.int xa4), .val (.int xa5), .val (.int xb0), .val (.int xb1), .val (.int xb2), .val (.int xb3), .val (.int xb4), .val (.int xb5), .val (.int (1 : Int32)), .val (.int (Int32.ofNat nB)), .val (.int sA), .val (.int sB), .val (.ref xA), .val (.ref xB), .val (.ref b62), .val (.ref b85), .unset, .unset, .unset] [])) t → Steps p.tables e below (s₁.setTop (entryFrame m #[(.long vs), (.long vt_), (.int vlens), (.int vssid), (.int vpick)] maxLocals)) t := pre115
      have pre117 : ∀ t, Steps p.tables e below (T102.setTop (mkF m 293 #[.val (.long vs), .second, .val (.long vt_), .second, .val (.int vlens), .val (.int vssid), .val (.int vpick), .val (.int xa0), .val (.int xa1), .val (.int xa2), .val (.int xa3), .val (.int xa4), .val (.int xa5), .val (.int xb0), .val (.int xb1), .val (.int xb2), .val (.int xb3), .val (.int xb4), .val (.int xb5), .val (.int (1 : Int32)), .val (.int (Int32.ofNat nB)), .val (.int sA), .val (.int sB), .val (.ref xA), .val (.ref xB), .val (.ref b62), .val (.ref b85), .unset, .unset, .unset] [(.int (Int32.ofNat nB)), (.int (1 : Int32))])) t → Steps p.tables e below (s₁.setTop (entryFrame m #[(.long vs), (.long vt_), (.int vlens), (.int vssid), (.int vpick)] maxLocals)) t := by
        intro t kt
        refine pre116_1 t ?_
        show Steps p.tables e below (T102.setTop (mkF m 289 #[.val (.long vs), .second, .val (.long vt_), .second, .val (.int vlens), .val (.int vssid), .val (.int vpick), .val (.int xa0), .val (.int xa1), .val (.int xa2), .val (.int xa3), .val (.int xa4), .val (.int xa5), .val (.int xb0), .val (.int xb1), .val (.int xb2), .val (.int xb3), .val (.int xb4), .val (.int xb5), .val (.int (1 : Int32)), .val (.int (Int32.ofNat nB)), .val (.int sA), .val (.int sB), .val (.ref xA), .val (.ref xB), .val (.ref b62), .val (.ref b85), .unset, .unset, .unset] [])) _
        refine XS.iload X102.here hx rfl (hb hby at_289) rfl ?_
        show Steps p.tables e below (T102.setTop (mkF m 291 #[.val (.long vs), .second, .val (.long vt_), .second, .val (.int vlens), .val (.int vssid), .val (.int vpick), .val (.int xa0), .val (.int xa1), .val (.int xa2), .val (.int xa3), .val (.int xa4), .val (.int xa5), .val (.int xb0), .val (.int xb1), .val (.int xb2), .val (.int xb3), .val (.int xb4), .val (.int xb5), .val (.int (1 : Int32)), .val (.int (Int32.ofNat nB)), .val (.int sA), .val (.int sB), .val (.ref xA), .val (.ref xB), .val (.ref b62), .val (.ref b85), .unset, .unset, .unset] [(.int (1 : Int32))])) _
        refine XS.iload X102.here hx rfl (hb hby at_291) rfl ?_
        exact kt
      by_cases hc118 : (1 : Int32) = (Int32.ofNat nB)
      ·
        have pre119 : ∀ t, Steps p.tables e below (T102.setTop (mkF m 300 #[.val (.long vs), .second, .val (.long vt_), .second, .val (.int vlens), .val (.int vssid), .val (.int vpick), .val (.int xa0), .val (.int xa1), .val (.int xa2), .val (.int xa3), .val (.int xa4), .val (.int xa5), .val (.int xb0), .val (.int xb1), .val (.int xb2), .val (.int xb3), .val (.int xb4), .val (.int xb5), .val (.int (1 : Int32)), .val (.int (Int32.ofNat nB)), .val (.int sA), .val (.int sB), .val (.ref xA), .val (.ref xB), .val (.ref b62), .val (.ref b85), .unset, .unset, .unset] [(.int sB), (.int sA)])) t → Steps p.tables e below (s₁.setTop (entryFrame m #[(.long vs), (.long vt_), (.int vlens), (.int vssid), (.int vpick)] maxLocals)) t := by
          intro t kt
          refine pre117 t ?_
          show Steps p.tables e below (T102.setTop (mkF m 293 #[.val (.long vs), .second, .val (.long vt_), .second, .val (.int vlens), .val (.int vssid), .val (.int vpick), .val (.int xa0), .val (.int xa1), .val (.int xa2), .val (.int xa3), .val (.int xa4), .val (.int xa5), .val (.int xb0), .val (.int xb1), .val (.int xb2), .val (.int xb3), .val (.int xb4), .val (.int xb5), .val (.int (1 : Int32)), .val (.int (Int32.ofNat nB)), .val (.int sA), .val (.int sB), .val (.ref xA), .val (.ref xB), .val (.ref b62), .val (.ref b85), .unset, .unset, .unset] [(.int (Int32.ofNat nB)), (.int (1 : Int32))])) _
          refine XS.icmpNo X102.here hx rfl (hb hby at_293) rfl (teq (hc118 : (1 : Int32) = (Int32.ofNat nB))).2 ?_
          show Steps p.tables e below (T102.setTop (mkF m 296 #[.val (.long vs), .second, .val (.long vt_), .second, .val (.int vlens), .val (.int vssid), .val (.int vpick), .val (.int xa0), .val (.int xa1), .val (.int xa2), .val (.int xa3), .val (.int xa4), .val (.int xa5), .val (.int xb0), .val (.int xb1), .val (.int xb2), .val (.int xb3), .val (.int xb4), .val (.int xb5), .val (.int (1 : Int32)), .val (.int (Int32.ofNat nB)), .val (.int sA), .val (.int sB), .val (.ref xA), .val (.ref xB), .val (.ref b62), .val (.ref b85), .unset, .unset, .unset] [])) _
          refine XS.iload X102.here hx rfl (hb hby at_296) rfl ?_
          show Steps p.tables e below (T102.setTop (mkF m 298 #[.val (.long vs), .second, .val (.long vt_), .second, .val (.int vlens), .val (.int vssid), .val (.int vpick), .val (.int xa0), .val (.int xa1), .val (.int xa2), .val (.int xa3), .val (.int xa4), .val (.int xa5), .val (.int xb0), .val (.int xb1), .val (.int xb2), .val (.int xb3), .val (.int xb4), .val (.int xb5), .val (.int (1 : Int32)), .val (.int (Int32.ofNat nB)), .val (.int sA), .val (.int sB), .val (.ref xA), .val (.ref xB), .val (.ref b62), .val (.ref b85), .unset, .unset, .unset] [(.int sA)])) _
          refine XS.iload X102.here hx rfl (hb hby at_298) rfl ?_
          exact kt
        by_cases hc120 : sA = sB
        ·
          have pre121 : ∀ t, Steps p.tables e below (T102.setTop (mkF m 307 #[.val (.long vs), .second, .val (.long vt_), .second, .val (.int vlens), .val (.int vssid), .val (.int vpick), .val (.int xa0), .val (.int xa1), .val (.int xa2), .val (.int xa3), .val (.int xa4), .val (.int xa5), .val (.int xb0), .val (.int xb1), .val (.int xb2), .val (.int xb3), .val (.int xb4), .val (.int xb5), .val (.int (1 : Int32)), .val (.int (Int32.ofNat nB)), .val (.int sA), .val (.int sB), .val (.ref xA), .val (.ref xB), .val (.ref b62), .val (.ref b85), .unset, .unset, .unset] [(.int xb0), (.int xa0)])) t → Steps p.tables e below (s₁.setTop (entryFrame m #[(.long vs), (.long vt_), (.int vlens), (.int vssid), (.int vpick)] maxLocals)) t := by
            intro t kt
            refine pre119 t ?_
            show Steps p.tables e below (T102.setTop (mkF m 300 #[.val (.long vs), .second, .val (.long vt_), .second, .val (.int vlens), .val (.int vssid), .val (.int vpick), .val (.int xa0), .val (.int xa1), .val (.int xa2), .val (.int xa3), .val (.int xa4), .val (.int xa5), .val (.int xb0), .val (.int xb1), .val (.int xb2), .val (.int xb3), .val (.int xb4), .val (.int xb5), .val (.int (1 : Int32)), .val (.int (Int32.ofNat nB)), .val (.int sA), .val (.int sB), .val (.ref xA), .val (.ref xB), .val (.ref b62), .val (.ref b85), .unset, .unset, .unset] [(.int sB), (.int sA)])) _
            refine XS.icmpNo X102.here hx rfl (hb hby at_300) rfl (teq (hc120 : sA = sB)).2 ?_
            show Steps p.tables e below (T102.setTop (mkF m 303 #[.val (.long vs), .second, .val (.long vt_), .second, .val (.int vlens), .val (.int vssid), .val (.int vpick), .val (.int xa0), .val (.int xa1), .val (.int xa2), .val (.int xa3), .val (.int xa4), .val (.int xa5), .val (.int xb0), .val (.int xb1), .val (.int xb2), .val (.int xb3), .val (.int xb4), .val (.int xb5), .val (.int (1 : Int32)), .val (.int (Int32.ofNat nB)), .val (.int sA), .val (.int sB), .val (.ref xA), .val (.ref xB), .val (.ref b62), .val (.ref b85), .unset, .unset, .unset] [])) _
            refine XS.iload X102.here hx rfl (hb hby at_303) rfl ?_
            show Steps p.tables e below (T102.setTop (mkF m 305 #[.val (.long vs), .second, .val (.long vt_), .second, .val (.int vlens), .val (.int vssid), .val (.int vpick), .val (.int xa0), .val (.int xa1), .val (.int xa2), .val (.int xa3), .val (.int xa4), .val (.int xa5), .val (.int xb0), .val (.int xb1), .val (.int xb2), .val (.int xb3), .val (.int xb4), .val (.int xb5), .val (.int (1 : Int32)), .val (.int (Int32.ofNat nB)), .val (.int sA), .val (.int sB), .val (.ref xA), .val (.ref xB), .val (.ref b62), .val (.ref b85), .unset, .unset, .unset] [(.int xa0)])) _
            refine XS.iload X102.here hx rfl (hb hby at_305) rfl ?_
            exact kt
          by_cases hc122 : xa0 = xb0
          ·
            have pre123 : ∀ t, Steps p.tables e below (T102.setTop (mkF m 381 #[.val (.long vs), .second, .val (.long vt_), .second, .val (.int vlens), .val (.int vssid), .val (.int vpick), .val (.int xa0), .val (.int xa1), .val (.int xa2), .val (.int xa3), .val (.int xa4), .val (.int xa5), .val (.int xb0), .val (.int xb1), .val (.int xb2), .val (.int xb3), .val (.int xb4), .val (.int xb5), .val (.int (1 : Int32)), .val (.int (Int32.ofNat nB)), .val (.int sA), .val (.int sB), .val (.ref xA), .val (.ref xB), .val (.ref b62), .val (.ref b85), .unset, .unset, .unset] [(.int (1 : Int32))])) t → Steps p.tables e below (s₁.setTop (entryFrame m #[(.long vs), (.long vt_), (.int vlens), (.int vssid), (.int vpick)] maxLocals)) t := by
              intro t kt
              refine pre121 t ?_
              show Steps p.tables e below (T102.setTop (mkF m 307 #[.val (.long vs), .second, .val (.long vt_), .second, .val (.int vlens), .val (.int vssid), .val (.int vpick), .val (.int xa0), .val (.int xa1), .val (.int xa2), .val (.int xa3), .val (.int xa4), .val (.int xa5), .val (.int xb0), .val (.int xb1), .val (.int xb2), .val (.int xb3), .val (.int xb4), .val (.int xb5), .val (.int (1 : Int32)), .val (.int (Int32.ofNat nB)), .val (.int sA), .val (.int sB), .val (.ref xA), .val (.ref xB), .val (.ref b62), .val (.ref b85), .unset, .unset, .unset] [(.int xb0), (.int xa0)])) _
              refine XS.icmpNo X102.here hx rfl (hb hby at_307) rfl (teq (hc122 : xa0 = xb0)).2 ?_
              show Steps p.tables e below (T102.setTop (mkF m 310 #[.val (.long vs), .second, .val (.long vt_), .second, .val (.int vlens), .val (.int vssid), .val (.int vpick), .val (.int xa0), .val (.int xa1), .val (.int xa2), .val (.int xa3), .val (.int xa4), .val (.int xa5), .val (.int xb0), .val (.int xb1), .val (.int xb2), .val (.int xb3), .val (.int xb4), .val (.int xb5), .val (.int (1 : Int32)), .val (.int (Int32.ofNat nB)), .val (.int sA), .val (.int sB), .val (.ref xA), .val (.ref xB), .val (.ref b62), .val (.ref b85), .unset, .unset, .unset] [])) _
              refine XS.iload X102.here hx rfl (hb hby at_310) rfl ?_
              show Steps p.tables e below (T102.setTop (mkF m 312 #[.val (.long vs), .second, .val (.long vt_), .second, .val (.int vlens), .val (.int vssid), .val (.int vpick), .val (.int xa0), .val (.int xa1), .val (.int xa2), .val (.int xa3), .val (.int xa4), .val (.int xa5), .val (.int xb0), .val (.int xb1), .val (.int xb2), .val (.int xb3), .val (.int xb4), .val (.int xb5), .val (.int (1 : Int32)), .val (.int (Int32.ofNat nB)), .val (.int sA), .val (.int sB), .val (.ref xA), .val (.ref xB), .val (.ref b62), .val (.ref b85), .unset, .unset, .unset] [(.int (1 : Int32))])) _
              refine XS.iconst X102.here hx rfl (hb hby at_312) ?_
              show Steps p.tables e below (T102.setTop (mkF m 313 #[.val (.long vs), .second, .val (.long vt_), .second, .val (.int vlens), .val (.int vssid), .val (.int vpick), .val (.int xa0), .val (.int xa1), .val (.int xa2), .val (.int xa3), .val (.int xa4), .val (.int xa5), .val (.int xb0), .val (.int xb1), .val (.int xb2), .val (.int xb3), .val (.int xb4), .val (.int xb5), .val (.int (1 : Int32)), .val (.int (Int32.ofNat nB)), .val (.int sA), .val (.int sB), .val (.ref xA), .val (.ref xB), .val (.ref b62), .val (.ref b85), .unset, .unset, .unset] [(.int (2 : Int32)), (.int (1 : Int32))])) _
              refine XS.icmpYes X102.here hx rfl (pc0 := 313) (pc' := 323) rfl (hb hby at_313) rfl (tlt ((by decide) : (1 : Int32) < (2 : Int32))).1 (by decide) (by decide) ?_
              show Steps p.tables e below (T102.setTop (mkF m 323 #[.val (.long vs), .second, .val (.long vt_), .second, .val (.int vlens), .val (.int vssid), .val (.int vpick), .val (.int xa0), .val (.int xa1), .val (.int xa2), .val (.int xa3), .val (.int xa4), .val (.int xa5), .val (.int xb0), .val (.int xb1), .val (.int xb2), .val (.int xb3), .val (.int xb4), .val (.int xb5), .val (.int (1 : Int32)), .val (.int (Int32.ofNat nB)), .val (.int sA), .val (.int sB), .val (.ref xA), .val (.ref xB), .val (.ref b62), .val (.ref b85), .unset, .unset, .unset] [])) _
              refine XS.iload X102.here hx rfl (hb hby at_323) rfl ?_
              show Steps p.tables e below (T102.setTop (mkF m 325 #[.val (.long vs), .second, .val (.long vt_), .second, .val (.int vlens), .val (.int vssid), .val (.int vpick), .val (.int xa0), .val (.int xa1), .val (.int xa2), .val (.int xa3), .val (.int xa4), .val (.int xa5), .val (.int xb0), .val (.int xb1), .val (.int xb2), .val (.int xb3), .val (.int xb4), .val (.int xb5), .val (.int (1 : Int32)), .val (.int (Int32.ofNat nB)), .val (.int sA), .val (.int sB), .val (.ref xA), .val (.ref xB), .val (.ref b62), .val (.ref b85), .unset, .unset, .unset] [(.int (1 : Int32))])) _
              refine XS.iconst X102.here hx rfl (hb hby at_325) ?_
              show Steps p.tables e below (T102.setTop (mkF m 326 #[.val (.long vs), .second, .val (.long vt_), .second, .val (.int vlens), .val (.int vssid), .val (.int vpick), .val (.int xa0), .val (.int xa1), .val (.int xa2), .val (.int xa3), .val (.int xa4), .val (.int xa5), .val (.int xb0), .val (.int xb1), .val (.int xb2), .val (.int xb3), .val (.int xb4), .val (.int xb5), .val (.int (1 : Int32)), .val (.int (Int32.ofNat nB)), .val (.int sA), .val (.int sB), .val (.ref xA), .val (.ref xB), .val (.ref b62), .val (.ref b85), .unset, .unset, .unset] [(.int (3 : Int32)), (.int (1 : Int32))])) _
              refine XS.icmpYes X102.here hx rfl (pc0 := 326) (pc' := 336) rfl (hb hby at_326) rfl (tlt ((by decide) : (1 : Int32) < (3 : Int32))).1 (by decide) (by decide) ?_
              show Steps p.tables e below (T102.setTop (mkF m 336 #[.val (.long vs), .second, .val (.long vt_), .second, .val (.int vlens), .val (.int vssid), .val (.int vpick), .val (.int xa0), .val (.int xa1), .val (.int xa2), .val (.int xa3), .val (.int xa4), .val (.int xa5), .val (.int xb0), .val (.int xb1), .val (.int xb2), .val (.int xb3), .val (.int xb4), .val (.int xb5), .val (.int (1 : Int32)), .val (.int (Int32.ofNat nB)), .val (.int sA), .val (.int sB), .val (.ref xA), .val (.ref xB), .val (.ref b62), .val (.ref b85), .unset, .unset, .unset] [])) _
              refine XS.iload X102.here hx rfl (hb hby at_336) rfl ?_
              show Steps p.tables e below (T102.setTop (mkF m 338 #[.val (.long vs), .second, .val (.long vt_), .second, .val (.int vlens), .val (.int vssid), .val (.int vpick), .val (.int xa0), .val (.int xa1), .val (.int xa2), .val (.int xa3), .val (.int xa4), .val (.int xa5), .val (.int xb0), .val (.int xb1), .val (.int xb2), .val (.int xb3), .val (.int xb4), .val (.int xb5), .val (.int (1 : Int32)), .val (.int (Int32.ofNat nB)), .val (.int sA), .val (.int sB), .val (.ref xA), .val (.ref xB), .val (.ref b62), .val (.ref b85), .unset, .unset, .unset] [(.int (1 : Int32))])) _
              refine XS.iconst X102.here hx rfl (hb hby at_338) ?_
              show Steps p.tables e below (T102.setTop (mkF m 339 #[.val (.long vs), .second, .val (.long vt_), .second, .val (.int vlens), .val (.int vssid), .val (.int vpick), .val (.int xa0), .val (.int xa1), .val (.int xa2), .val (.int xa3), .val (.int xa4), .val (.int xa5), .val (.int xb0), .val (.int xb1), .val (.int xb2), .val (.int xb3), .val (.int xb4), .val (.int xb5), .val (.int (1 : Int32)), .val (.int (Int32.ofNat nB)), .val (.int sA), .val (.int sB), .val (.ref xA), .val (.ref xB), .val (.ref b62), .val (.ref b85), .unset, .unset, .unset] [(.int (4 : Int32)), (.int (1 : Int32))])) _
              refine XS.icmpYes X102.here hx rfl (pc0 := 339) (pc' := 349) rfl (hb hby at_339) rfl (tlt ((by decide) : (1 : Int32) < (4 : Int32))).1 (by decide) (by decide) ?_
              show Steps p.tables e below (T102.setTop (mkF m 349 #[.val (.long vs), .second, .val (.long vt_), .second, .val (.int vlens), .val (.int vssid), .val (.int vpick), .val (.int xa0), .val (.int xa1), .val (.int xa2), .val (.int xa3), .val (.int xa4), .val (.int xa5), .val (.int xb0), .val (.int xb1), .val (.int xb2), .val (.int xb3), .val (.int xb4), .val (.int xb5), .val (.int (1 : Int32)), .val (.int (Int32.ofNat nB)), .val (.int sA), .val (.int sB), .val (.ref xA), .val (.ref xB), .val (.ref b62), .val (.ref b85), .unset, .unset, .unset] [])) _
              refine XS.iload X102.here hx rfl (hb hby at_349) rfl ?_
              show Steps p.tables e below (T102.setTop (mkF m 351 #[.val (.long vs), .second, .val (.long vt_), .second, .val (.int vlens), .val (.int vssid), .val (.int vpick), .val (.int xa0), .val (.int xa1), .val (.int xa2), .val (.int xa3), .val (.int xa4), .val (.int xa5), .val (.int xb0), .val (.int xb1), .val (.int xb2), .val (.int xb3), .val (.int xb4), .val (.int xb5), .val (.int (1 : Int32)), .val (.int (Int32.ofNat nB)), .val (.int sA), .val (.int sB), .val (.ref xA), .val (.ref xB), .val (.ref b62), .val (.ref b85), .unset, .unset, .unset] [(.int (1 : Int32))])) _
              refine XS.iconst X102.here hx rfl (hb hby at_351) ?_
              show Steps p.tables e below (T102.setTop (mkF m 352 #[.val (.long vs), .second, .val (.long vt_), .second, .val (.int vlens), .val (.int vssid), .val (.int vpick), .val (.int xa0), .val (.int xa1), .val (.int xa2), .val (.int xa3), .val (.int xa4), .val (.int xa5), .val (.int xb0), .val (.int xb1), .val (.int xb2), .val (.int xb3), .val (.int xb4), .val (.int xb5), .val (.int (1 : Int32)), .val (.int (Int32.ofNat nB)), .val (.int sA), .val (.int sB), .val (.ref xA), .val (.ref xB), .val (.ref b62), .val (.ref b85), .unset, .unset, .unset] [(.int (5 : Int32)), (.int (1 : Int32))])) _
              refine XS.icmpYes X102.here hx rfl (pc0 := 352) (pc' := 362) rfl (hb hby at_352) rfl (tlt ((by decide) : (1 : Int32) < (5 : Int32))).1 (by decide) (by decide) ?_
              show Steps p.tables e below (T102.setTop (mkF m 362 #[.val (.long vs), .second, .val (.long vt_), .second, .val (.int vlens), .val (.int vssid), .val (.int vpick), .val (.int xa0), .val (.int xa1), .val (.int xa2), .val (.int xa3), .val (.int xa4), .val (.int xa5), .val (.int xb0), .val (.int xb1), .val (.int xb2), .val (.int xb3), .val (.int xb4), .val (.int xb5), .val (.int (1 : Int32)), .val (.int (Int32.ofNat nB)), .val (.int sA), .val (.int sB), .val (.ref xA), .val (.ref xB), .val (.ref b62), .val (.ref b85), .unset, .unset, .unset] [])) _
              refine XS.iload X102.here hx rfl (hb hby at_362) rfl ?_
              show Steps p.tables e below (T102.setTop (mkF m 364 #[.val (.long vs), .second, .val (.long vt_), .second, .val (.int vlens), .val (.int vssid), .val (.int vpick), .val (.int xa0), .val (.int xa1), .val (.int xa2), .val (.int xa3), .val (.int xa4), .val (.int xa5), .val (.int xb0), .val (.int xb1), .val (.int xb2), .val (.int xb3), .val (.int xb4), .val (.int xb5), .val (.int (1 : Int32)), .val (.int (Int32.ofNat nB)), .val (.int sA), .val (.int sB), .val (.ref xA), .val (.ref xB), .val (.ref b62), .val (.ref b85), .unset, .unset, .unset] [(.int (1 : Int32))])) _
              refine XS.bipush X102.here hx rfl (hb hby at_364) ?_
              show Steps p.tables e below (T102.setTop (mkF m 366 #[.val (.long vs), .second, .val (.long vt_), .second, .val (.int vlens), .val (.int vssid), .val (.int vpick), .val (.int xa0), .val (.int xa1), .val (.int xa2), .val (.int xa3), .val (.int xa4), .val (.int xa5), .val (.int xb0), .val (.int xb1), .val (.int xb2), .val (.int xb3), .val (.int xb4), .val (.int xb5), .val (.int (1 : Int32)), .val (.int (Int32.ofNat nB)), .val (.int sA), .val (.int sB), .val (.ref xA), .val (.ref xB), .val (.ref b62), .val (.ref b85), .unset, .unset, .unset] [(.int (6 : Int32)), (.int (1 : Int32))])) _
              refine XS.icmpYes X102.here hx rfl (pc0 := 366) (pc' := 376) rfl (hb hby at_366) rfl (tlt ((by decide) : (1 : Int32) < (6 : Int32))).1 (by decide) (by decide) ?_
              show Steps p.tables e below (T102.setTop (mkF m 376 #[.val (.long vs), .second, .val (.long vt_), .second, .val (.int vlens), .val (.int vssid), .val (.int vpick), .val (.int xa0), .val (.int xa1), .val (.int xa2), .val (.int xa3), .val (.int xa4), .val (.int xa5), .val (.int xb0), .val (.int xb1), .val (.int xb2), .val (.int xb3), .val (.int xb4), .val (.int xb5), .val (.int (1 : Int32)), .val (.int (Int32.ofNat nB)), .val (.int sA), .val (.int sB), .val (.ref xA), .val (.ref xB), .val (.ref b62), .val (.ref b85), .unset, .unset, .unset] [])) _
              refine XS.iconst X102.here hx rfl (hb hby at_376) ?_
              show Steps p.tables e below (T102.setTop (mkF m 377 #[.val (.long vs), .second, .val (.long vt_), .second, .val (.int vlens), .val (.int vssid), .val (.int vpick), .val (.int xa0), .val (.int xa1), .val (.int xa2), .val (.int xa3), .val (.int xa4), .val (.int xa5), .val (.int xb0), .val (.int xb1), .val (.int xb2), .val (.int xb3), .val (.int xb4), .val (.int xb5), .val (.int (1 : Int32)), .val (.int (Int32.ofNat nB)), .val (.int sA), .val (.int sB), .val (.ref xA), .val (.ref xB), .val (.ref b62), .val (.ref b85), .unset, .unset, .unset] [(.int (1 : Int32))])) _
              refine XS.goto X102.here hx rfl (pc0 := 377) (pc' := 381) rfl (hb hby at_377) (by decide) (by decide) ?_
              exact kt
            exact ⟨T102, _, X102, rfl, N102, fun t kt => pre123 t (by have q : (own_same (Int32.ofNat 1) (Int32.ofNat nB) sA sB xa0 xa1 xa2 xa3 xa4 xa5 xb0 xb1 xb2 xb3 xb4 xb5) = (1 : Int32) := by { rw [own_same]; exact if_pos ⟨hc118, hc120, hc122, Or.inl (by decide), Or.inl (by decide), Or.inl (by decide), Or.inl (by decide), Or.inl (by decide)⟩ }; rw [q] at kt; exact kt)⟩
          ·
            have pre124 : ∀ t, Steps p.tables e below (T102.setTop (mkF m 381 #[.val (.long vs), .second, .val (.long vt_), .second, .val (.int vlens), .val (.int vssid), .val (.int vpick), .val (.int xa0), .val (.int xa1), .val (.int xa2), .val (.int xa3), .val (.int xa4), .val (.int xa5), .val (.int xb0), .val (.int xb1), .val (.int xb2), .val (.int xb3), .val (.int xb4), .val (.int xb5), .val (.int (1 : Int32)), .val (.int (Int32.ofNat nB)), .val (.int sA), .val (.int sB), .val (.ref xA), .val (.ref xB), .val (.ref b62), .val (.ref b85), .unset, .unset, .unset] [(.int (0 : Int32))])) t → Steps p.tables e below (s₁.setTop (entryFrame m #[(.long vs), (.long vt_), (.int vlens), (.int vssid), (.int vpick)] maxLocals)) t := by
              intro t kt
              refine pre121 t ?_
              show Steps p.tables e below (T102.setTop (mkF m 307 #[.val (.long vs), .second, .val (.long vt_), .second, .val (.int vlens), .val (.int vssid), .val (.int vpick), .val (.int xa0), .val (.int xa1), .val (.int xa2), .val (.int xa3), .val (.int xa4), .val (.int xa5), .val (.int xb0), .val (.int xb1), .val (.int xb2), .val (.int xb3), .val (.int xb4), .val (.int xb5), .val (.int (1 : Int32)), .val (.int (Int32.ofNat nB)), .val (.int sA), .val (.int sB), .val (.ref xA), .val (.ref xB), .val (.ref b62), .val (.ref b85), .unset, .unset, .unset] [(.int xb0), (.int xa0)])) _
              refine XS.icmpYes X102.here hx rfl (pc0 := 307) (pc' := 380) rfl (hb hby at_307) rfl (feq (hc122 : ¬ (xa0 = xb0))).2 (by decide) (by decide) ?_
              show Steps p.tables e below (T102.setTop (mkF m 380 #[.val (.long vs), .second, .val (.long vt_), .second, .val (.int vlens), .val (.int vssid), .val (.int vpick), .val (.int xa0), .val (.int xa1), .val (.int xa2), .val (.int xa3), .val (.int xa4), .val (.int xa5), .val (.int xb0), .val (.int xb1), .val (.int xb2), .val (.int xb3), .val (.int xb4), .val (.int xb5), .val (.int (1 : Int32)), .val (.int (Int32.ofNat nB)), .val (.int sA), .val (.int sB), .val (.ref xA), .val (.ref xB), .val (.ref b62), .val (.ref b85), .unset, .unset, .unset] [])) _
              refine XS.iconst X102.here hx rfl (hb hby at_380) ?_
              exact kt
            exact ⟨T102, _, X102, rfl, N102, fun t kt => pre124 t (by have q : (own_same (Int32.ofNat 1) (Int32.ofNat nB) sA sB xa0 xa1 xa2 xa3 xa4 xa5 xb0 xb1 xb2 xb3 xb4 xb5) = (0 : Int32) := by { rw [own_same]; exact if_neg (fun q => hc122 q.2.2.1) }; rw [q] at kt; exact kt)⟩
        ·
          have pre125 : ∀ t, Steps p.tables e below (T102.setTop (mkF m 381 #[.val (.long vs), .second, .val (.long vt_), .second, .val (.int vlens), .val (.int vssid), .val (.int vpick), .val (.int xa0), .val (.int xa1), .val (.int xa2), .val (.int xa3), .val (.int xa4), .val (.int xa5), .val (.int xb0), .val (.int xb1), .val (.int xb2), .val (.int xb3), .val (.int xb4), .val (.int xb5), .val (.int (1 : Int32)), .val (.int (Int32.ofNat nB)), .val (.int sA), .val (.int sB), .val (.ref xA), .val (.ref xB), .val (.ref b62), .val (.ref b85), .unset, .unset, .unset] [(.int (0 : Int32))])) t → Steps p.tables e below (s₁.setTop (entryFrame m #[(.long vs), (.long vt_), (.int vlens), (.int vssid), (.int vpick)] maxLocals)) t := by
            intro t kt
            refine pre119 t ?_
            show Steps p.tables e below (T102.setTop (mkF m 300 #[.val (.long vs), .second, .val (.long vt_), .second, .val (.int vlens), .val (.int vssid), .val (.int vpick), .val (.int xa0), .val (.int xa1), .val (.int xa2), .val (.int xa3), .val (.int xa4), .val (.int xa5), .val (.int xb0), .val (.int xb1), .val (.int xb2), .val (.int xb3), .val (.int xb4), .val (.int xb5), .val (.int (1 : Int32)), .val (.int (Int32.ofNat nB)), .val (.int sA), .val (.int sB), .val (.ref xA), .val (.ref xB), .val (.ref b62), .val (.ref b85), .unset, .unset, .unset] [(.int sB), (.int sA)])) _
            refine XS.icmpYes X102.here hx rfl (pc0 := 300) (pc' := 380) rfl (hb hby at_300) rfl (feq (hc120 : ¬ (sA = sB))).2 (by decide) (by decide) ?_
            show Steps p.tables e below (T102.setTop (mkF m 380 #[.val (.long vs), .second, .val (.long vt_), .second, .val (.int vlens), .val (.int vssid), .val (.int vpick), .val (.int xa0), .val (.int xa1), .val (.int xa2), .val (.int xa3), .val (.int xa4), .val (.int xa5), .val (.int xb0), .val (.int xb1), .val (.int xb2), .val (.int xb3), .val (.int xb4), .val (.int xb5), .val (.int (1 : Int32)), .val (.int (Int32.ofNat nB)), .val (.int sA), .val (.int sB), .val (.ref xA), .val (.ref xB), .val (.ref b62), .val (.ref b85), .unset, .unset, .unset] [])) _
            refine XS.iconst X102.here hx rfl (hb hby at_380) ?_
            exact kt
          exact ⟨T102, _, X102, rfl, N102, fun t kt => pre125 t (by have q : (own_same (Int32.ofNat 1) (Int32.ofNat nB) sA sB xa0 xa1 xa2 xa3 xa4 xa5 xb0 xb1 xb2 xb3 xb4 xb5) = (0 : Int32) := by { rw [own_same]; exact if_neg (fun q => hc120 q.2.1) }; rw [q] at kt; exact kt)⟩
      ·
        have pre126 : ∀ t, Steps p.tables e below (T102.setTop (mkF m 381 #[.val (.long vs), .second, .val (.long vt_), .second, .val (.int vlens), .val (.int vssid), .val (.int vpick), .val (.int xa0), .val (.int xa1), .val (.int xa2), .val (.int xa3), .val (.int xa4), .val (.int xa5), .val (.int xb0), .val (.int xb1), .val (.int xb2), .val (.int xb3), .val (.int xb4), .val (.int xb5), .val (.int (1 : Int32)), .val (.int (Int32.ofNat nB)), .val (.int sA), .val (.int sB), .val (.ref xA), .val (.ref xB), .val (.ref b62), .val (.ref b85), .unset, .unset, .unset] [(.int (0 : Int32))])) t → Steps p.tables e below (s₁.setTop (entryFrame m #[(.long vs), (.long vt_), (.int vlens), (.int vssid), (.int vpick)] maxLocals)) t := by
          intro t kt
          refine pre117 t ?_
          show Steps p.tables e below (T102.setTop (mkF m 293 #[.val (.long vs), .second, .val (.long vt_), .second, .val (.int vlens), .val (.int vssid), .val (.int vpick), .val (.int xa0), .val (.int xa1), .val (.int xa2), .val (.int xa3), .val (.int xa4), .val (.int xa5), .val (.int xb0), .val (.int xb1), .val (.int xb2), .val (.int xb3), .val (.int xb4), .val (.int xb5), .val (.int (1 : Int32)), .val (.int (Int32.ofNat nB)), .val (.int sA), .val (.int sB), .val (.ref xA), .val (.ref xB), .val (.ref b62), .val (.ref b85), .unset, .unset, .unset] [(.int (Int32.ofNat nB)), (.int (1 : Int32))])) _
          refine XS.icmpYes X102.here hx rfl (pc0 := 293) (pc' := 380) rfl (hb hby at_293) rfl (feq (hc118 : ¬ ((1 : Int32) = (Int32.ofNat nB)))).2 (by decide) (by decide) ?_
          show Steps p.tables e below (T102.setTop (mkF m 380 #[.val (.long vs), .second, .val (.long vt_), .second, .val (.int vlens), .val (.int vssid), .val (.int vpick), .val (.int xa0), .val (.int xa1), .val (.int xa2), .val (.int xa3), .val (.int xa4), .val (.int xa5), .val (.int xb0), .val (.int xb1), .val (.int xb2), .val (.int xb3), .val (.int xb4), .val (.int xb5), .val (.int (1 : Int32)), .val (.int (Int32.ofNat nB)), .val (.int sA), .val (.int sB), .val (.ref xA), .val (.ref xB), .val (.ref b62), .val (.ref b85), .unset, .unset, .unset] [])) _
          refine XS.iconst X102.here hx rfl (hb hby at_380) ?_
          exact kt
        exact ⟨T102, _, X102, rfl, N102, fun t kt => pre126 t (by have q : (own_same (Int32.ofNat 1) (Int32.ofNat nB) sA sB xa0 xa1 xa2 xa3 xa4 xa5 xb0 xb1 xb2 xb3 xb4 xb5) = (0 : Int32) := by { rw [own_same]; exact if_neg (fun q => hc118 q.1) }; rw [q] at kt; exact kt)⟩
    ·
      have pre116_2 : ∀ t, Steps p.tables e below (T102.setTop (mkF m 289 #[.val (.long vs), .second, .val (.long vt_), .second, .val (.int vlens), .val (.int vssid), .val (.int vpick), .val (.int xa0), .val (.int xa1), .val (.int xa2), .val (.int xa3), .val (.int xa4), .val (.int xa5), .val (.int xb0), .val (.int xb1), .val (.int xb2), .val (.int xb3), .val (.int xb4), .val (.int xb5), .val (.int (2 : Int32)), .val (.int (Int32.ofNat nB)), .val (.int sA), .val (.int sB), .val (.ref xA), .val (.ref xB), .val (.ref b62), .val (.ref b85), .unset, .unset, .unset] [])) t → Steps p.tables e below (s₁.setTop (entryFrame m #[(.long vs), (.long vt_), (.int vlens), (.int vssid), (.int vpick)] maxLocals)) t := pre115
      have pre127 : ∀ t, Steps p.tables e below (T102.setTop (mkF m 293 #[.val (.long vs), .second, .val (.long vt_), .second, .val (.int vlens), .val (.int vssid), .val (.int vpick), .val (.int xa0), .val (.int xa1), .val (.int xa2), .val (.int xa3), .val (.int xa4), .val (.int xa5), .val (.int xb0), .val (.int xb1), .val (.int xb2), .val (.int xb3), .val (.int xb4), .val (.int xb5), .val (.int (2 : Int32)), .val (.int (Int32.ofNat nB)), .val (.int sA), .val (.int sB), .val (.ref xA), .val (.ref xB), .val (.ref b62), .val (.ref b85), .unset, .unset, .unset] [(.int (Int32.ofNat nB)), (.int (2 : Int32))])) t → Steps p.tables e below (s₁.setTop (entryFrame m #[(.long vs), (.long vt_), (.int vlens), (.int vssid), (.int vpick)] maxLocals)) t := by
        intro t kt
        refine pre116_2 t ?_
        show Steps p.tables e below (T102.setTop (mkF m 289 #[.val (.long vs), .second, .val (.long vt_), .second, .val (.int vlens), .val (.int vssid), .val (.int vpick), .val (.int xa0), .val (.int xa1), .val (.int xa2), .val (.int xa3), .val (.int xa4), .val (.int xa5), .val (.int xb0), .val (.int xb1), .val (.int xb2), .val (.int xb3), .val (.int xb4), .val (.int xb5), .val (.int (2 : Int32)), .val (.int (Int32.ofNat nB)), .val (.int sA), .val (.int sB), .val (.ref xA), .val (.ref xB), .val (.ref b62), .val (.ref b85), .unset, .unset, .unset] [])) _
        refine XS.iload X102.here hx rfl (hb hby at_289) rfl ?_
        show Steps p.tables e below (T102.setTop (mkF m 291 #[.val (.long vs), .second, .val (.long vt_), .second, .val (.int vlens), .val (.int vssid), .val (.int vpick), .val (.int xa0), .val (.int xa1), .val (.int xa2), .val (.int xa3), .val (.int xa4), .val (.int xa5), .val (.int xb0), .val (.int xb1), .val (.int xb2), .val (.int xb3), .val (.int xb4), .val (.int xb5), .val (.int (2 : Int32)), .val (.int (Int32.ofNat nB)), .val (.int sA), .val (.int sB), .val (.ref xA), .val (.ref xB), .val (.ref b62), .val (.ref b85), .unset, .unset, .unset] [(.int (2 : Int32))])) _
        refine XS.iload X102.here hx rfl (hb hby at_291) rfl ?_
        exact kt
      by_cases hc128 : (2 : Int32) = (Int32.ofNat nB)
      ·
        have pre129 : ∀ t, Steps p.tables e below (T102.setTop (mkF m 300 #[.val (.long vs), .second, .val (.long vt_), .second, .val (.int vlens), .val (.int vssid), .val (.int vpick), .val (.int xa0), .val (.int xa1), .val (.int xa2), .val (.int xa3), .val (.int xa4), .val (.int xa5), .val (.int xb0), .val (.int xb1), .val (.int xb2), .val (.int xb3), .val (.int xb4), .val (.int xb5), .val (.int (2 : Int32)), .val (.int (Int32.ofNat nB)), .val (.int sA), .val (.int sB), .val (.ref xA), .val (.ref xB), .val (.ref b62), .val (.ref b85), .unset, .unset, .unset] [(.int sB), (.int sA)])) t → Steps p.tables e below (s₁.setTop (entryFrame m #[(.long vs), (.long vt_), (.int vlens), (.int vssid), (.int vpick)] maxLocals)) t := by
          intro t kt
          refine pre127 t ?_
          show Steps p.tables e below (T102.setTop (mkF m 293 #[.val (.long vs), .second, .val (.long vt_), .second, .val (.int vlens), .val (.int vssid), .val (.int vpick), .val (.int xa0), .val (.int xa1), .val (.int xa2), .val (.int xa3), .val (.int xa4), .val (.int xa5), .val (.int xb0), .val (.int xb1), .val (.int xb2), .val (.int xb3), .val (.int xb4), .val (.int xb5), .val (.int (2 : Int32)), .val (.int (Int32.ofNat nB)), .val (.int sA), .val (.int sB), .val (.ref xA), .val (.ref xB), .val (.ref b62), .val (.ref b85), .unset, .unset, .unset] [(.int (Int32.ofNat nB)), (.int (2 : Int32))])) _
          refine XS.icmpNo X102.here hx rfl (hb hby at_293) rfl (teq (hc128 : (2 : Int32) = (Int32.ofNat nB))).2 ?_
          show Steps p.tables e below (T102.setTop (mkF m 296 #[.val (.long vs), .second, .val (.long vt_), .second, .val (.int vlens), .val (.int vssid), .val (.int vpick), .val (.int xa0), .val (.int xa1), .val (.int xa2), .val (.int xa3), .val (.int xa4), .val (.int xa5), .val (.int xb0), .val (.int xb1), .val (.int xb2), .val (.int xb3), .val (.int xb4), .val (.int xb5), .val (.int (2 : Int32)), .val (.int (Int32.ofNat nB)), .val (.int sA), .val (.int sB), .val (.ref xA), .val (.ref xB), .val (.ref b62), .val (.ref b85), .unset, .unset, .unset] [])) _
          refine XS.iload X102.here hx rfl (hb hby at_296) rfl ?_
          show Steps p.tables e below (T102.setTop (mkF m 298 #[.val (.long vs), .second, .val (.long vt_), .second, .val (.int vlens), .val (.int vssid), .val (.int vpick), .val (.int xa0), .val (.int xa1), .val (.int xa2), .val (.int xa3), .val (.int xa4), .val (.int xa5), .val (.int xb0), .val (.int xb1), .val (.int xb2), .val (.int xb3), .val (.int xb4), .val (.int xb5), .val (.int (2 : Int32)), .val (.int (Int32.ofNat nB)), .val (.int sA), .val (.int sB), .val (.ref xA), .val (.ref xB), .val (.ref b62), .val (.ref b85), .unset, .unset, .unset] [(.int sA)])) _
          refine XS.iload X102.here hx rfl (hb hby at_298) rfl ?_
          exact kt
        by_cases hc130 : sA = sB
        ·
          have pre131 : ∀ t, Steps p.tables e below (T102.setTop (mkF m 307 #[.val (.long vs), .second, .val (.long vt_), .second, .val (.int vlens), .val (.int vssid), .val (.int vpick), .val (.int xa0), .val (.int xa1), .val (.int xa2), .val (.int xa3), .val (.int xa4), .val (.int xa5), .val (.int xb0), .val (.int xb1), .val (.int xb2), .val (.int xb3), .val (.int xb4), .val (.int xb5), .val (.int (2 : Int32)), .val (.int (Int32.ofNat nB)), .val (.int sA), .val (.int sB), .val (.ref xA), .val (.ref xB), .val (.ref b62), .val (.ref b85), .unset, .unset, .unset] [(.int xb0), (.int xa0)])) t → Steps p.tables e below (s₁.setTop (entryFrame m #[(.long vs), (.long vt_), (.int vlens), (.int vssid), (.int vpick)] maxLocals)) t := by
            intro t kt
            refine pre129 t ?_
            show Steps p.tables e below (T102.setTop (mkF m 300 #[.val (.long vs), .second, .val (.long vt_), .second, .val (.int vlens), .val (.int vssid), .val (.int vpick), .val (.int xa0), .val (.int xa1), .val (.int xa2), .val (.int xa3), .val (.int xa4), .val (.int xa5), .val (.int xb0), .val (.int xb1), .val (.int xb2), .val (.int xb3), .val (.int xb4), .val (.int xb5), .val (.int (2 : Int32)), .val (.int (Int32.ofNat nB)), .val (.int sA), .val (.int sB), .val (.ref xA), .val (.ref xB), .val (.ref b62), .val (.ref b85), .unset, .unset, .unset] [(.int sB), (.int sA)])) _
            refine XS.icmpNo X102.here hx rfl (hb hby at_300) rfl (teq (hc130 : sA = sB)).2 ?_
            show Steps p.tables e below (T102.setTop (mkF m 303 #[.val (.long vs), .second, .val (.long vt_), .second, .val (.int vlens), .val (.int vssid), .val (.int vpick), .val (.int xa0), .val (.int xa1), .val (.int xa2), .val (.int xa3), .val (.int xa4), .val (.int xa5), .val (.int xb0), .val (.int xb1), .val (.int xb2), .val (.int xb3), .val (.int xb4), .val (.int xb5), .val (.int (2 : Int32)), .val (.int (Int32.ofNat nB)), .val (.int sA), .val (.int sB), .val (.ref xA), .val (.ref xB), .val (.ref b62), .val (.ref b85), .unset, .unset, .unset] [])) _
            refine XS.iload X102.here hx rfl (hb hby at_303) rfl ?_
            show Steps p.tables e below (T102.setTop (mkF m 305 #[.val (.long vs), .second, .val (.long vt_), .second, .val (.int vlens), .val (.int vssid), .val (.int vpick), .val (.int xa0), .val (.int xa1), .val (.int xa2), .val (.int xa3), .val (.int xa4), .val (.int xa5), .val (.int xb0), .val (.int xb1), .val (.int xb2), .val (.int xb3), .val (.int xb4), .val (.int xb5), .val (.int (2 : Int32)), .val (.int (Int32.ofNat nB)), .val (.int sA), .val (.int sB), .val (.ref xA), .val (.ref xB), .val (.ref b62), .val (.ref b85), .unset, .unset, .unset] [(.int xa0)])) _
            refine XS.iload X102.here hx rfl (hb hby at_305) rfl ?_
            exact kt
          by_cases hc132 : xa0 = xb0
          ·
            have pre133 : ∀ t, Steps p.tables e below (T102.setTop (mkF m 320 #[.val (.long vs), .second, .val (.long vt_), .second, .val (.int vlens), .val (.int vssid), .val (.int vpick), .val (.int xa0), .val (.int xa1), .val (.int xa2), .val (.int xa3), .val (.int xa4), .val (.int xa5), .val (.int xb0), .val (.int xb1), .val (.int xb2), .val (.int xb3), .val (.int xb4), .val (.int xb5), .val (.int (2 : Int32)), .val (.int (Int32.ofNat nB)), .val (.int sA), .val (.int sB), .val (.ref xA), .val (.ref xB), .val (.ref b62), .val (.ref b85), .unset, .unset, .unset] [(.int xb1), (.int xa1)])) t → Steps p.tables e below (s₁.setTop (entryFrame m #[(.long vs), (.long vt_), (.int vlens), (.int vssid), (.int vpick)] maxLocals)) t := by
              intro t kt
              refine pre131 t ?_
              show Steps p.tables e below (T102.setTop (mkF m 307 #[.val (.long vs), .second, .val (.long vt_), .second, .val (.int vlens), .val (.int vssid), .val (.int vpick), .val (.int xa0), .val (.int xa1), .val (.int xa2), .val (.int xa3), .val (.int xa4), .val (.int xa5), .val (.int xb0), .val (.int xb1), .val (.int xb2), .val (.int xb3), .val (.int xb4), .val (.int xb5), .val (.int (2 : Int32)), .val (.int (Int32.ofNat nB)), .val (.int sA), .val (.int sB), .val (.ref xA), .val (.ref xB), .val (.ref b62), .val (.ref b85), .unset, .unset, .unset] [(.int xb0), (.int xa0)])) _
              refine XS.icmpNo X102.here hx rfl (hb hby at_307) rfl (teq (hc132 : xa0 = xb0)).2 ?_
              show Steps p.tables e below (T102.setTop (mkF m 310 #[.val (.long vs), .second, .val (.long vt_), .second, .val (.int vlens), .val (.int vssid), .val (.int vpick), .val (.int xa0), .val (.int xa1), .val (.int xa2), .val (.int xa3), .val (.int xa4), .val (.int xa5), .val (.int xb0), .val (.int xb1), .val (.int xb2), .val (.int xb3), .val (.int xb4), .val (.int xb5), .val (.int (2 : Int32)), .val (.int (Int32.ofNat nB)), .val (.int sA), .val (.int sB), .val (.ref xA), .val (.ref xB), .val (.ref b62), .val (.ref b85), .unset, .unset, .unset] [])) _
              refine XS.iload X102.here hx rfl (hb hby at_310) rfl ?_
              show Steps p.tables e below (T102.setTop (mkF m 312 #[.val (.long vs), .second, .val (.long vt_), .second, .val (.int vlens), .val (.int vssid), .val (.int vpick), .val (.int xa0), .val (.int xa1), .val (.int xa2), .val (.int xa3), .val (.int xa4), .val (.int xa5), .val (.int xb0), .val (.int xb1), .val (.int xb2), .val (.int xb3), .val (.int xb4), .val (.int xb5), .val (.int (2 : Int32)), .val (.int (Int32.ofNat nB)), .val (.int sA), .val (.int sB), .val (.ref xA), .val (.ref xB), .val (.ref b62), .val (.ref b85), .unset, .unset, .unset] [(.int (2 : Int32))])) _
              refine XS.iconst X102.here hx rfl (hb hby at_312) ?_
              show Steps p.tables e below (T102.setTop (mkF m 313 #[.val (.long vs), .second, .val (.long vt_), .second, .val (.int vlens), .val (.int vssid), .val (.int vpick), .val (.int xa0), .val (.int xa1), .val (.int xa2), .val (.int xa3), .val (.int xa4), .val (.int xa5), .val (.int xb0), .val (.int xb1), .val (.int xb2), .val (.int xb3), .val (.int xb4), .val (.int xb5), .val (.int (2 : Int32)), .val (.int (Int32.ofNat nB)), .val (.int sA), .val (.int sB), .val (.ref xA), .val (.ref xB), .val (.ref b62), .val (.ref b85), .unset, .unset, .unset] [(.int (2 : Int32)), (.int (2 : Int32))])) _
              refine XS.icmpNo X102.here hx rfl (hb hby at_313) rfl (flt ((by decide) : ¬ ((2 : Int32) < (2 : Int32)))).1 ?_
              show Steps p.tables e below (T102.setTop (mkF m 316 #[.val (.long vs), .second, .val (.long vt_), .second, .val (.int vlens), .val (.int vssid), .val (.int vpick), .val (.int xa0), .val (.int xa1), .val (.int xa2), .val (.int xa3), .val (.int xa4), .val (.int xa5), .val (.int xb0), .val (.int xb1), .val (.int xb2), .val (.int xb3), .val (.int xb4), .val (.int xb5), .val (.int (2 : Int32)), .val (.int (Int32.ofNat nB)), .val (.int sA), .val (.int sB), .val (.ref xA), .val (.ref xB), .val (.ref b62), .val (.ref b85), .unset, .unset, .unset] [])) _
              refine XS.iload X102.here hx rfl (hb hby at_316) rfl ?_
              show Steps p.tables e below (T102.setTop (mkF m 318 #[.val (.long vs), .second, .val (.long vt_), .second, .val (.int vlens), .val (.int vssid), .val (.int vpick), .val (.int xa0), .val (.int xa1), .val (.int xa2), .val (.int xa3), .val (.int xa4), .val (.int xa5), .val (.int xb0), .val (.int xb1), .val (.int xb2), .val (.int xb3), .val (.int xb4), .val (.int xb5), .val (.int (2 : Int32)), .val (.int (Int32.ofNat nB)), .val (.int sA), .val (.int sB), .val (.ref xA), .val (.ref xB), .val (.ref b62), .val (.ref b85), .unset, .unset, .unset] [(.int xa1)])) _
              refine XS.iload X102.here hx rfl (hb hby at_318) rfl ?_
              exact kt
            by_cases hc134 : xa1 = xb1
            ·
              have pre135 : ∀ t, Steps p.tables e below (T102.setTop (mkF m 381 #[.val (.long vs), .second, .val (.long vt_), .second, .val (.int vlens), .val (.int vssid), .val (.int vpick), .val (.int xa0), .val (.int xa1), .val (.int xa2), .val (.int xa3), .val (.int xa4), .val (.int xa5), .val (.int xb0), .val (.int xb1), .val (.int xb2), .val (.int xb3), .val (.int xb4), .val (.int xb5), .val (.int (2 : Int32)), .val (.int (Int32.ofNat nB)), .val (.int sA), .val (.int sB), .val (.ref xA), .val (.ref xB), .val (.ref b62), .val (.ref b85), .unset, .unset, .unset] [(.int (1 : Int32))])) t → Steps p.tables e below (s₁.setTop (entryFrame m #[(.long vs), (.long vt_), (.int vlens), (.int vssid), (.int vpick)] maxLocals)) t := by
                intro t kt
                refine pre133 t ?_
                show Steps p.tables e below (T102.setTop (mkF m 320 #[.val (.long vs), .second, .val (.long vt_), .second, .val (.int vlens), .val (.int vssid), .val (.int vpick), .val (.int xa0), .val (.int xa1), .val (.int xa2), .val (.int xa3), .val (.int xa4), .val (.int xa5), .val (.int xb0), .val (.int xb1), .val (.int xb2), .val (.int xb3), .val (.int xb4), .val (.int xb5), .val (.int (2 : Int32)), .val (.int (Int32.ofNat nB)), .val (.int sA), .val (.int sB), .val (.ref xA), .val (.ref xB), .val (.ref b62), .val (.ref b85), .unset, .unset, .unset] [(.int xb1), (.int xa1)])) _
                refine XS.icmpNo X102.here hx rfl (hb hby at_320) rfl (teq (hc134 : xa1 = xb1)).2 ?_
                show Steps p.tables e below (T102.setTop (mkF m 323 #[.val (.long vs), .second, .val (.long vt_), .second, .val (.int vlens), .val (.int vssid), .val (.int vpick), .val (.int xa0), .val (.int xa1), .val (.int xa2), .val (.int xa3), .val (.int xa4), .val (.int xa5), .val (.int xb0), .val (.int xb1), .val (.int xb2), .val (.int xb3), .val (.int xb4), .val (.int xb5), .val (.int (2 : Int32)), .val (.int (Int32.ofNat nB)), .val (.int sA), .val (.int sB), .val (.ref xA), .val (.ref xB), .val (.ref b62), .val (.ref b85), .unset, .unset, .unset] [])) _
                refine XS.iload X102.here hx rfl (hb hby at_323) rfl ?_
                show Steps p.tables e below (T102.setTop (mkF m 325 #[.val (.long vs), .second, .val (.long vt_), .second, .val (.int vlens), .val (.int vssid), .val (.int vpick), .val (.int xa0), .val (.int xa1), .val (.int xa2), .val (.int xa3), .val (.int xa4), .val (.int xa5), .val (.int xb0), .val (.int xb1), .val (.int xb2), .val (.int xb3), .val (.int xb4), .val (.int xb5), .val (.int (2 : Int32)), .val (.int (Int32.ofNat nB)), .val (.int sA), .val (.int sB), .val (.ref xA), .val (.ref xB), .val (.ref b62), .val (.ref b85), .unset, .unset, .unset] [(.int (2 : Int32))])) _
                refine XS.iconst X102.here hx rfl (hb hby at_325) ?_
                show Steps p.tables e below (T102.setTop (mkF m 326 #[.val (.long vs), .second, .val (.long vt_), .second, .val (.int vlens), .val (.int vssid), .val (.int vpick), .val (.int xa0), .val (.int xa1), .val (.int xa2), .val (.int xa3), .val (.int xa4), .val (.int xa5), .val (.int xb0), .val (.int xb1), .val (.int xb2), .val (.int xb3), .val (.int xb4), .val (.int xb5), .val (.int (2 : Int32)), .val (.int (Int32.ofNat nB)), .val (.int sA), .val (.int sB), .val (.ref xA), .val (.ref xB), .val (.ref b62), .val (.ref b85), .unset, .unset, .unset] [(.int (3 : Int32)), (.int (2 : Int32))])) _
                refine XS.icmpYes X102.here hx rfl (pc0 := 326) (pc' := 336) rfl (hb hby at_326) rfl (tlt ((by decide) : (2 : Int32) < (3 : Int32))).1 (by decide) (by decide) ?_
                show Steps p.tables e below (T102.setTop (mkF m 336 #[.val (.long vs), .second, .val (.long vt_), .second, .val (.int vlens), .val (.int vssid), .val (.int vpick), .val (.int xa0), .val (.int xa1), .val (.int xa2), .val (.int xa3), .val (.int xa4), .val (.int xa5), .val (.int xb0), .val (.int xb1), .val (.int xb2), .val (.int xb3), .val (.int xb4), .val (.int xb5), .val (.int (2 : Int32)), .val (.int (Int32.ofNat nB)), .val (.int sA), .val (.int sB), .val (.ref xA), .val (.ref xB), .val (.ref b62), .val (.ref b85), .unset, .unset, .unset] [])) _
                refine XS.iload X102.here hx rfl (hb hby at_336) rfl ?_
                show Steps p.tables e below (T102.setTop (mkF m 338 #[.val (.long vs), .second, .val (.long vt_), .second, .val (.int vlens), .val (.int vssid), .val (.int vpick), .val (.int xa0), .val (.int xa1), .val (.int xa2), .val (.int xa3), .val (.int xa4), .val (.int xa5), .val (.int xb0), .val (.int xb1), .val (.int xb2), .val (.int xb3), .val (.int xb4), .val (.int xb5), .val (.int (2 : Int32)), .val (.int (Int32.ofNat nB)), .val (.int sA), .val (.int sB), .val (.ref xA), .val (.ref xB), .val (.ref b62), .val (.ref b85), .unset, .unset, .unset] [(.int (2 : Int32))])) _
                refine XS.iconst X102.here hx rfl (hb hby at_338) ?_
                show Steps p.tables e below (T102.setTop (mkF m 339 #[.val (.long vs), .second, .val (.long vt_), .second, .val (.int vlens), .val (.int vssid), .val (.int vpick), .val (.int xa0), .val (.int xa1), .val (.int xa2), .val (.int xa3), .val (.int xa4), .val (.int xa5), .val (.int xb0), .val (.int xb1), .val (.int xb2), .val (.int xb3), .val (.int xb4), .val (.int xb5), .val (.int (2 : Int32)), .val (.int (Int32.ofNat nB)), .val (.int sA), .val (.int sB), .val (.ref xA), .val (.ref xB), .val (.ref b62), .val (.ref b85), .unset, .unset, .unset] [(.int (4 : Int32)), (.int (2 : Int32))])) _
                refine XS.icmpYes X102.here hx rfl (pc0 := 339) (pc' := 349) rfl (hb hby at_339) rfl (tlt ((by decide) : (2 : Int32) < (4 : Int32))).1 (by decide) (by decide) ?_
                show Steps p.tables e below (T102.setTop (mkF m 349 #[.val (.long vs), .second, .val (.long vt_), .second, .val (.int vlens), .val (.int vssid), .val (.int vpick), .val (.int xa0), .val (.int xa1), .val (.int xa2), .val (.int xa3), .val (.int xa4), .val (.int xa5), .val (.int xb0), .val (.int xb1), .val (.int xb2), .val (.int xb3), .val (.int xb4), .val (.int xb5), .val (.int (2 : Int32)), .val (.int (Int32.ofNat nB)), .val (.int sA), .val (.int sB), .val (.ref xA), .val (.ref xB), .val (.ref b62), .val (.ref b85), .unset, .unset, .unset] [])) _
                refine XS.iload X102.here hx rfl (hb hby at_349) rfl ?_
                show Steps p.tables e below (T102.setTop (mkF m 351 #[.val (.long vs), .second, .val (.long vt_), .second, .val (.int vlens), .val (.int vssid), .val (.int vpick), .val (.int xa0), .val (.int xa1), .val (.int xa2), .val (.int xa3), .val (.int xa4), .val (.int xa5), .val (.int xb0), .val (.int xb1), .val (.int xb2), .val (.int xb3), .val (.int xb4), .val (.int xb5), .val (.int (2 : Int32)), .val (.int (Int32.ofNat nB)), .val (.int sA), .val (.int sB), .val (.ref xA), .val (.ref xB), .val (.ref b62), .val (.ref b85), .unset, .unset, .unset] [(.int (2 : Int32))])) _
                refine XS.iconst X102.here hx rfl (hb hby at_351) ?_
                show Steps p.tables e below (T102.setTop (mkF m 352 #[.val (.long vs), .second, .val (.long vt_), .second, .val (.int vlens), .val (.int vssid), .val (.int vpick), .val (.int xa0), .val (.int xa1), .val (.int xa2), .val (.int xa3), .val (.int xa4), .val (.int xa5), .val (.int xb0), .val (.int xb1), .val (.int xb2), .val (.int xb3), .val (.int xb4), .val (.int xb5), .val (.int (2 : Int32)), .val (.int (Int32.ofNat nB)), .val (.int sA), .val (.int sB), .val (.ref xA), .val (.ref xB), .val (.ref b62), .val (.ref b85), .unset, .unset, .unset] [(.int (5 : Int32)), (.int (2 : Int32))])) _
                refine XS.icmpYes X102.here hx rfl (pc0 := 352) (pc' := 362) rfl (hb hby at_352) rfl (tlt ((by decide) : (2 : Int32) < (5 : Int32))).1 (by decide) (by decide) ?_
                show Steps p.tables e below (T102.setTop (mkF m 362 #[.val (.long vs), .second, .val (.long vt_), .second, .val (.int vlens), .val (.int vssid), .val (.int vpick), .val (.int xa0), .val (.int xa1), .val (.int xa2), .val (.int xa3), .val (.int xa4), .val (.int xa5), .val (.int xb0), .val (.int xb1), .val (.int xb2), .val (.int xb3), .val (.int xb4), .val (.int xb5), .val (.int (2 : Int32)), .val (.int (Int32.ofNat nB)), .val (.int sA), .val (.int sB), .val (.ref xA), .val (.ref xB), .val (.ref b62), .val (.ref b85), .unset, .unset, .unset] [])) _
                refine XS.iload X102.here hx rfl (hb hby at_362) rfl ?_
                show Steps p.tables e below (T102.setTop (mkF m 364 #[.val (.long vs), .second, .val (.long vt_), .second, .val (.int vlens), .val (.int vssid), .val (.int vpick), .val (.int xa0), .val (.int xa1), .val (.int xa2), .val (.int xa3), .val (.int xa4), .val (.int xa5), .val (.int xb0), .val (.int xb1), .val (.int xb2), .val (.int xb3), .val (.int xb4), .val (.int xb5), .val (.int (2 : Int32)), .val (.int (Int32.ofNat nB)), .val (.int sA), .val (.int sB), .val (.ref xA), .val (.ref xB), .val (.ref b62), .val (.ref b85), .unset, .unset, .unset] [(.int (2 : Int32))])) _
                refine XS.bipush X102.here hx rfl (hb hby at_364) ?_
                show Steps p.tables e below (T102.setTop (mkF m 366 #[.val (.long vs), .second, .val (.long vt_), .second, .val (.int vlens), .val (.int vssid), .val (.int vpick), .val (.int xa0), .val (.int xa1), .val (.int xa2), .val (.int xa3), .val (.int xa4), .val (.int xa5), .val (.int xb0), .val (.int xb1), .val (.int xb2), .val (.int xb3), .val (.int xb4), .val (.int xb5), .val (.int (2 : Int32)), .val (.int (Int32.ofNat nB)), .val (.int sA), .val (.int sB), .val (.ref xA), .val (.ref xB), .val (.ref b62), .val (.ref b85), .unset, .unset, .unset] [(.int (6 : Int32)), (.int (2 : Int32))])) _
                refine XS.icmpYes X102.here hx rfl (pc0 := 366) (pc' := 376) rfl (hb hby at_366) rfl (tlt ((by decide) : (2 : Int32) < (6 : Int32))).1 (by decide) (by decide) ?_
                show Steps p.tables e below (T102.setTop (mkF m 376 #[.val (.long vs), .second, .val (.long vt_), .second, .val (.int vlens), .val (.int vssid), .val (.int vpick), .val (.int xa0), .val (.int xa1), .val (.int xa2), .val (.int xa3), .val (.int xa4), .val (.int xa5), .val (.int xb0), .val (.int xb1), .val (.int xb2), .val (.int xb3), .val (.int xb4), .val (.int xb5), .val (.int (2 : Int32)), .val (.int (Int32.ofNat nB)), .val (.int sA), .val (.int sB), .val (.ref xA), .val (.ref xB), .val (.ref b62), .val (.ref b85), .unset, .unset, .unset] [])) _
                refine XS.iconst X102.here hx rfl (hb hby at_376) ?_
                show Steps p.tables e below (T102.setTop (mkF m 377 #[.val (.long vs), .second, .val (.long vt_), .second, .val (.int vlens), .val (.int vssid), .val (.int vpick), .val (.int xa0), .val (.int xa1), .val (.int xa2), .val (.int xa3), .val (.int xa4), .val (.int xa5), .val (.int xb0), .val (.int xb1), .val (.int xb2), .val (.int xb3), .val (.int xb4), .val (.int xb5), .val (.int (2 : Int32)), .val (.int (Int32.ofNat nB)), .val (.int sA), .val (.int sB), .val (.ref xA), .val (.ref xB), .val (.ref b62), .val (.ref b85), .unset, .unset, .unset] [(.int (1 : Int32))])) _
                refine XS.goto X102.here hx rfl (pc0 := 377) (pc' := 381) rfl (hb hby at_377) (by decide) (by decide) ?_
                exact kt
              exact ⟨T102, _, X102, rfl, N102, fun t kt => pre135 t (by have q : (own_same (Int32.ofNat 2) (Int32.ofNat nB) sA sB xa0 xa1 xa2 xa3 xa4 xa5 xb0 xb1 xb2 xb3 xb4 xb5) = (1 : Int32) := by { rw [own_same]; exact if_pos ⟨hc128, hc130, hc132, Or.inr hc134, Or.inl (by decide), Or.inl (by decide), Or.inl (by decide), Or.inl (by decide)⟩ }; rw [q] at kt; exact kt)⟩
            ·
              have pre136 : ∀ t, Steps p.tables e below (T102.setTop (mkF m 381 #[.val (.long vs), .second, .val (.long vt_), .second, .val (.int vlens), .val (.int vssid), .val (.int vpick), .val (.int xa0), .val (.int xa1), .val (.int xa2), .val (.int xa3), .val (.int xa4), .val (.int xa5), .val (.int xb0), .val (.int xb1), .val (.int xb2), .val (.int xb3), .val (.int xb4), .val (.int xb5), .val (.int (2 : Int32)), .val (.int (Int32.ofNat nB)), .val (.int sA), .val (.int sB), .val (.ref xA), .val (.ref xB), .val (.ref b62), .val (.ref b85), .unset, .unset, .unset] [(.int (0 : Int32))])) t → Steps p.tables e below (s₁.setTop (entryFrame m #[(.long vs), (.long vt_), (.int vlens), (.int vssid), (.int vpick)] maxLocals)) t := by
                intro t kt
                refine pre133 t ?_
                show Steps p.tables e below (T102.setTop (mkF m 320 #[.val (.long vs), .second, .val (.long vt_), .second, .val (.int vlens), .val (.int vssid), .val (.int vpick), .val (.int xa0), .val (.int xa1), .val (.int xa2), .val (.int xa3), .val (.int xa4), .val (.int xa5), .val (.int xb0), .val (.int xb1), .val (.int xb2), .val (.int xb3), .val (.int xb4), .val (.int xb5), .val (.int (2 : Int32)), .val (.int (Int32.ofNat nB)), .val (.int sA), .val (.int sB), .val (.ref xA), .val (.ref xB), .val (.ref b62), .val (.ref b85), .unset, .unset, .unset] [(.int xb1), (.int xa1)])) _
                refine XS.icmpYes X102.here hx rfl (pc0 := 320) (pc' := 380) rfl (hb hby at_320) rfl (feq (hc134 : ¬ (xa1 = xb1))).2 (by decide) (by decide) ?_
                show Steps p.tables e below (T102.setTop (mkF m 380 #[.val (.long vs), .second, .val (.long vt_), .second, .val (.int vlens), .val (.int vssid), .val (.int vpick), .val (.int xa0), .val (.int xa1), .val (.int xa2), .val (.int xa3), .val (.int xa4), .val (.int xa5), .val (.int xb0), .val (.int xb1), .val (.int xb2), .val (.int xb3), .val (.int xb4), .val (.int xb5), .val (.int (2 : Int32)), .val (.int (Int32.ofNat nB)), .val (.int sA), .val (.int sB), .val (.ref xA), .val (.ref xB), .val (.ref b62), .val (.ref b85), .unset, .unset, .unset] [])) _
                refine XS.iconst X102.here hx rfl (hb hby at_380) ?_
                exact kt
              exact ⟨T102, _, X102, rfl, N102, fun t kt => pre136 t (by have q : (own_same (Int32.ofNat 2) (Int32.ofNat nB) sA sB xa0 xa1 xa2 xa3 xa4 xa5 xb0 xb1 xb2 xb3 xb4 xb5) = (0 : Int32) := by { rw [own_same]; exact if_neg (fun q => hc134 (q.2.2.2.1.resolve_left (by decide))) }; rw [q] at kt; exact kt)⟩
          ·
            have pre137 : ∀ t, Steps p.tables e below (T102.setTop (mkF m 381 #[.val (.long vs), .second, .val (.long vt_), .second, .val (.int vlens), .val (.int vssid), .val (.int vpick), .val (.int xa0), .val (.int xa1), .val (.int xa2), .val (.int xa3), .val (.int xa4), .val (.int xa5), .val (.int xb0), .val (.int xb1), .val (.int xb2), .val (.int xb3), .val (.int xb4), .val (.int xb5), .val (.int (2 : Int32)), .val (.int (Int32.ofNat nB)), .val (.int sA), .val (.int sB), .val (.ref xA), .val (.ref xB), .val (.ref b62), .val (.ref b85), .unset, .unset, .unset] [(.int (0 : Int32))])) t → Steps p.tables e below (s₁.setTop (entryFrame m #[(.long vs), (.long vt_), (.int vlens), (.int vssid), (.int vpick)] maxLocals)) t := by
              intro t kt
              refine pre131 t ?_
              show Steps p.tables e below (T102.setTop (mkF m 307 #[.val (.long vs), .second, .val (.long vt_), .second, .val (.int vlens), .val (.int vssid), .val (.int vpick), .val (.int xa0), .val (.int xa1), .val (.int xa2), .val (.int xa3), .val (.int xa4), .val (.int xa5), .val (.int xb0), .val (.int xb1), .val (.int xb2), .val (.int xb3), .val (.int xb4), .val (.int xb5), .val (.int (2 : Int32)), .val (.int (Int32.ofNat nB)), .val (.int sA), .val (.int sB), .val (.ref xA), .val (.ref xB), .val (.ref b62), .val (.ref b85), .unset, .unset, .unset] [(.int xb0), (.int xa0)])) _
              refine XS.icmpYes X102.here hx rfl (pc0 := 307) (pc' := 380) rfl (hb hby at_307) rfl (feq (hc132 : ¬ (xa0 = xb0))).2 (by decide) (by decide) ?_
              show Steps p.tables e below (T102.setTop (mkF m 380 #[.val (.long vs), .second, .val (.long vt_), .second, .val (.int vlens), .val (.int vssid), .val (.int vpick), .val (.int xa0), .val (.int xa1), .val (.int xa2), .val (.int xa3), .val (.int xa4), .val (.int xa5), .val (.int xb0), .val (.int xb1), .val (.int xb2), .val (.int xb3), .val (.int xb4), .val (.int xb5), .val (.int (2 : Int32)), .val (.int (Int32.ofNat nB)), .val (.int sA), .val (.int sB), .val (.ref xA), .val (.ref xB), .val (.ref b62), .val (.ref b85), .unset, .unset, .unset] [])) _
              refine XS.iconst X102.here hx rfl (hb hby at_380) ?_
              exact kt
            exact ⟨T102, _, X102, rfl, N102, fun t kt => pre137 t (by have q : (own_same (Int32.ofNat 2) (Int32.ofNat nB) sA sB xa0 xa1 xa2 xa3 xa4 xa5 xb0 xb1 xb2 xb3 xb4 xb5) = (0 : Int32) := by { rw [own_same]; exact if_neg (fun q => hc132 q.2.2.1) }; rw [q] at kt; exact kt)⟩
        ·
          have pre138 : ∀ t, Steps p.tables e below (T102.setTop (mkF m 381 #[.val (.long vs), .second, .val (.long vt_), .second, .val (.int vlens), .val (.int vssid), .val (.int vpick), .val (.int xa0), .val (.int xa1), .val (.int xa2), .val (.int xa3), .val (.int xa4), .val (.int xa5), .val (.int xb0), .val (.int xb1), .val (.int xb2), .val (.int xb3), .val (.int xb4), .val (.int xb5), .val (.int (2 : Int32)), .val (.int (Int32.ofNat nB)), .val (.int sA), .val (.int sB), .val (.ref xA), .val (.ref xB), .val (.ref b62), .val (.ref b85), .unset, .unset, .unset] [(.int (0 : Int32))])) t → Steps p.tables e below (s₁.setTop (entryFrame m #[(.long vs), (.long vt_), (.int vlens), (.int vssid), (.int vpick)] maxLocals)) t := by
            intro t kt
            refine pre129 t ?_
            show Steps p.tables e below (T102.setTop (mkF m 300 #[.val (.long vs), .second, .val (.long vt_), .second, .val (.int vlens), .val (.int vssid), .val (.int vpick), .val (.int xa0), .val (.int xa1), .val (.int xa2), .val (.int xa3), .val (.int xa4), .val (.int xa5), .val (.int xb0), .val (.int xb1), .val (.int xb2), .val (.int xb3), .val (.int xb4), .val (.int xb5), .val (.int (2 : Int32)), .val (.int (Int32.ofNat nB)), .val (.int sA), .val (.int sB), .val (.ref xA), .val (.ref xB), .val (.ref b62), .val (.ref b85), .unset, .unset, .unset] [(.int sB), (.int sA)])) _
            refine XS.icmpYes X102.here hx rfl (pc0 := 300) (pc' := 380) rfl (hb hby at_300) rfl (feq (hc130 : ¬ (sA = sB))).2 (by decide) (by decide) ?_
            show Steps p.tables e below (T102.setTop (mkF m 380 #[.val (.long vs), .second, .val (.long vt_), .second, .val (.int vlens), .val (.int vssid), .val (.int vpick), .val (.int xa0), .val (.int xa1), .val (.int xa2), .val (.int xa3), .val (.int xa4), .val (.int xa5), .val (.int xb0), .val (.int xb1), .val (.int xb2), .val (.int xb3), .val (.int xb4), .val (.int xb5), .val (.int (2 : Int32)), .val (.int (Int32.ofNat nB)), .val (.int sA), .val (.int sB), .val (.ref xA), .val (.ref xB), .val (.ref b62), .val (.ref b85), .unset, .unset, .unset] [])) _
            refine XS.iconst X102.here hx rfl (hb hby at_380) ?_
            exact kt
          exact ⟨T102, _, X102, rfl, N102, fun t kt => pre138 t (by have q : (own_same (Int32.ofNat 2) (Int32.ofNat nB) sA sB xa0 xa1 xa2 xa3 xa4 xa5 xb0 xb1 xb2 xb3 xb4 xb5) = (0 : Int32) := by { rw [own_same]; exact if_neg (fun q => hc130 q.2.1) }; rw [q] at kt; exact kt)⟩
      ·
        have pre139 : ∀ t, Steps p.tables e below (T102.setTop (mkF m 381 #[.val (.long vs), .second, .val (.long vt_), .second, .val (.int vlens), .val (.int vssid), .val (.int vpick), .val (.int xa0), .val (.int xa1), .val (.int xa2), .val (.int xa3), .val (.int xa4), .val (.int xa5), .val (.int xb0), .val (.int xb1), .val (.int xb2), .val (.int xb3), .val (.int xb4), .val (.int xb5), .val (.int (2 : Int32)), .val (.int (Int32.ofNat nB)), .val (.int sA), .val (.int sB), .val (.ref xA), .val (.ref xB), .val (.ref b62), .val (.ref b85), .unset, .unset, .unset] [(.int (0 : Int32))])) t → Steps p.tables e below (s₁.setTop (entryFrame m #[(.long vs), (.long vt_), (.int vlens), (.int vssid), (.int vpick)] maxLocals)) t := by
          intro t kt
          refine pre127 t ?_
          show Steps p.tables e below (T102.setTop (mkF m 293 #[.val (.long vs), .second, .val (.long vt_), .second, .val (.int vlens), .val (.int vssid), .val (.int vpick), .val (.int xa0), .val (.int xa1), .val (.int xa2), .val (.int xa3), .val (.int xa4), .val (.int xa5), .val (.int xb0), .val (.int xb1), .val (.int xb2), .val (.int xb3), .val (.int xb4), .val (.int xb5), .val (.int (2 : Int32)), .val (.int (Int32.ofNat nB)), .val (.int sA), .val (.int sB), .val (.ref xA), .val (.ref xB), .val (.ref b62), .val (.ref b85), .unset, .unset, .unset] [(.int (Int32.ofNat nB)), (.int (2 : Int32))])) _
          refine XS.icmpYes X102.here hx rfl (pc0 := 293) (pc' := 380) rfl (hb hby at_293) rfl (feq (hc128 : ¬ ((2 : Int32) = (Int32.ofNat nB)))).2 (by decide) (by decide) ?_
          show Steps p.tables e below (T102.setTop (mkF m 380 #[.val (.long vs), .second, .val (.long vt_), .second, .val (.int vlens), .val (.int vssid), .val (.int vpick), .val (.int xa0), .val (.int xa1), .val (.int xa2), .val (.int xa3), .val (.int xa4), .val (.int xa5), .val (.int xb0), .val (.int xb1), .val (.int xb2), .val (.int xb3), .val (.int xb4), .val (.int xb5), .val (.int (2 : Int32)), .val (.int (Int32.ofNat nB)), .val (.int sA), .val (.int sB), .val (.ref xA), .val (.ref xB), .val (.ref b62), .val (.ref b85), .unset, .unset, .unset] [])) _
          refine XS.iconst X102.here hx rfl (hb hby at_380) ?_
          exact kt
        exact ⟨T102, _, X102, rfl, N102, fun t kt => pre139 t (by have q : (own_same (Int32.ofNat 2) (Int32.ofNat nB) sA sB xa0 xa1 xa2 xa3 xa4 xa5 xb0 xb1 xb2 xb3 xb4 xb5) = (0 : Int32) := by { rw [own_same]; exact if_neg (fun q => hc128 q.1) }; rw [q] at kt; exact kt)⟩
    ·
      have pre116_3 : ∀ t, Steps p.tables e below (T102.setTop (mkF m 289 #[.val (.long vs), .second, .val (.long vt_), .second, .val (.int vlens), .val (.int vssid), .val (.int vpick), .val (.int xa0), .val (.int xa1), .val (.int xa2), .val (.int xa3), .val (.int xa4), .val (.int xa5), .val (.int xb0), .val (.int xb1), .val (.int xb2), .val (.int xb3), .val (.int xb4), .val (.int xb5), .val (.int (3 : Int32)), .val (.int (Int32.ofNat nB)), .val (.int sA), .val (.int sB), .val (.ref xA), .val (.ref xB), .val (.ref b62), .val (.ref b85), .unset, .unset, .unset] [])) t → Steps p.tables e below (s₁.setTop (entryFrame m #[(.long vs), (.long vt_), (.int vlens), (.int vssid), (.int vpick)] maxLocals)) t := pre115
      have pre140 : ∀ t, Steps p.tables e below (T102.setTop (mkF m 293 #[.val (.long vs), .second, .val (.long vt_), .second, .val (.int vlens), .val (.int vssid), .val (.int vpick), .val (.int xa0), .val (.int xa1), .val (.int xa2), .val (.int xa3), .val (.int xa4), .val (.int xa5), .val (.int xb0), .val (.int xb1), .val (.int xb2), .val (.int xb3), .val (.int xb4), .val (.int xb5), .val (.int (3 : Int32)), .val (.int (Int32.ofNat nB)), .val (.int sA), .val (.int sB), .val (.ref xA), .val (.ref xB), .val (.ref b62), .val (.ref b85), .unset, .unset, .unset] [(.int (Int32.ofNat nB)), (.int (3 : Int32))])) t → Steps p.tables e below (s₁.setTop (entryFrame m #[(.long vs), (.long vt_), (.int vlens), (.int vssid), (.int vpick)] maxLocals)) t := by
        intro t kt
        refine pre116_3 t ?_
        show Steps p.tables e below (T102.setTop (mkF m 289 #[.val (.long vs), .second, .val (.long vt_), .second, .val (.int vlens), .val (.int vssid), .val (.int vpick), .val (.int xa0), .val (.int xa1), .val (.int xa2), .val (.int xa3), .val (.int xa4), .val (.int xa5), .val (.int xb0), .val (.int xb1), .val (.int xb2), .val (.int xb3), .val (.int xb4), .val (.int xb5), .val (.int (3 : Int32)), .val (.int (Int32.ofNat nB)), .val (.int sA), .val (.int sB), .val (.ref xA), .val (.ref xB), .val (.ref b62), .val (.ref b85), .unset, .unset, .unset] [])) _
        refine XS.iload X102.here hx rfl (hb hby at_289) rfl ?_
        show Steps p.tables e below (T102.setTop (mkF m 291 #[.val (.long vs), .second, .val (.long vt_), .second, .val (.int vlens), .val (.int vssid), .val (.int vpick), .val (.int xa0), .val (.int xa1), .val (.int xa2), .val (.int xa3), .val (.int xa4), .val (.int xa5), .val (.int xb0), .val (.int xb1), .val (.int xb2), .val (.int xb3), .val (.int xb4), .val (.int xb5), .val (.int (3 : Int32)), .val (.int (Int32.ofNat nB)), .val (.int sA), .val (.int sB), .val (.ref xA), .val (.ref xB), .val (.ref b62), .val (.ref b85), .unset, .unset, .unset] [(.int (3 : Int32))])) _
        refine XS.iload X102.here hx rfl (hb hby at_291) rfl ?_
        exact kt
      by_cases hc141 : (3 : Int32) = (Int32.ofNat nB)
      ·
        have pre142 : ∀ t, Steps p.tables e below (T102.setTop (mkF m 300 #[.val (.long vs), .second, .val (.long vt_), .second, .val (.int vlens), .val (.int vssid), .val (.int vpick), .val (.int xa0), .val (.int xa1), .val (.int xa2), .val (.int xa3), .val (.int xa4), .val (.int xa5), .val (.int xb0), .val (.int xb1), .val (.int xb2), .val (.int xb3), .val (.int xb4), .val (.int xb5), .val (.int (3 : Int32)), .val (.int (Int32.ofNat nB)), .val (.int sA), .val (.int sB), .val (.ref xA), .val (.ref xB), .val (.ref b62), .val (.ref b85), .unset, .unset, .unset] [(.int sB), (.int sA)])) t → Steps p.tables e below (s₁.setTop (entryFrame m #[(.long vs), (.long vt_), (.int vlens), (.int vssid), (.int vpick)] maxLocals)) t := by
          intro t kt
          refine pre140 t ?_
          show Steps p.tables e below (T102.setTop (mkF m 293 #[.val (.long vs), .second, .val (.long vt_), .second, .val (.int vlens), .val (.int vssid), .val (.int vpick), .val (.int xa0), .val (.int xa1), .val (.int xa2), .val (.int xa3), .val (.int xa4), .val (.int xa5), .val (.int xb0), .val (.int xb1), .val (.int xb2), .val (.int xb3), .val (.int xb4), .val (.int xb5), .val (.int (3 : Int32)), .val (.int (Int32.ofNat nB)), .val (.int sA), .val (.int sB), .val (.ref xA), .val (.ref xB), .val (.ref b62), .val (.ref b85), .unset, .unset, .unset] [(.int (Int32.ofNat nB)), (.int (3 : Int32))])) _
          refine XS.icmpNo X102.here hx rfl (hb hby at_293) rfl (teq (hc141 : (3 : Int32) = (Int32.ofNat nB))).2 ?_
          show Steps p.tables e below (T102.setTop (mkF m 296 #[.val (.long vs), .second, .val (.long vt_), .second, .val (.int vlens), .val (.int vssid), .val (.int vpick), .val (.int xa0), .val (.int xa1), .val (.int xa2), .val (.int xa3), .val (.int xa4), .val (.int xa5), .val (.int xb0), .val (.int xb1), .val (.int xb2), .val (.int xb3), .val (.int xb4), .val (.int xb5), .val (.int (3 : Int32)), .val (.int (Int32.ofNat nB)), .val (.int sA), .val (.int sB), .val (.ref xA), .val (.ref xB), .val (.ref b62), .val (.ref b85), .unset, .unset, .unset] [])) _
          refine XS.iload X102.here hx rfl (hb hby at_296) rfl ?_
          show Steps p.tables e below (T102.setTop (mkF m 298 #[.val (.long vs), .second, .val (.long vt_), .second, .val (.int vlens), .val (.int vssid), .val (.int vpick), .val (.int xa0), .val (.int xa1), .val (.int xa2), .val (.int xa3), .val (.int xa4), .val (.int xa5), .val (.int xb0), .val (.int xb1), .val (.int xb2), .val (.int xb3), .val (.int xb4), .val (.int xb5), .val (.int (3 : Int32)), .val (.int (Int32.ofNat nB)), .val (.int sA), .val (.int sB), .val (.ref xA), .val (.ref xB), .val (.ref b62), .val (.ref b85), .unset, .unset, .unset] [(.int sA)])) _
          refine XS.iload X102.here hx rfl (hb hby at_298) rfl ?_
          exact kt
        by_cases hc143 : sA = sB
        ·
          have pre144 : ∀ t, Steps p.tables e below (T102.setTop (mkF m 307 #[.val (.long vs), .second, .val (.long vt_), .second, .val (.int vlens), .val (.int vssid), .val (.int vpick), .val (.int xa0), .val (.int xa1), .val (.int xa2), .val (.int xa3), .val (.int xa4), .val (.int xa5), .val (.int xb0), .val (.int xb1), .val (.int xb2), .val (.int xb3), .val (.int xb4), .val (.int xb5), .val (.int (3 : Int32)), .val (.int (Int32.ofNat nB)), .val (.int sA), .val (.int sB), .val (.ref xA), .val (.ref xB), .val (.ref b62), .val (.ref b85), .unset, .unset, .unset] [(.int xb0), (.int xa0)])) t → Steps p.tables e below (s₁.setTop (entryFrame m #[(.long vs), (.long vt_), (.int vlens), (.int vssid), (.int vpick)] maxLocals)) t := by
            intro t kt
            refine pre142 t ?_
            show Steps p.tables e below (T102.setTop (mkF m 300 #[.val (.long vs), .second, .val (.long vt_), .second, .val (.int vlens), .val (.int vssid), .val (.int vpick), .val (.int xa0), .val (.int xa1), .val (.int xa2), .val (.int xa3), .val (.int xa4), .val (.int xa5), .val (.int xb0), .val (.int xb1), .val (.int xb2), .val (.int xb3), .val (.int xb4), .val (.int xb5), .val (.int (3 : Int32)), .val (.int (Int32.ofNat nB)), .val (.int sA), .val (.int sB), .val (.ref xA), .val (.ref xB), .val (.ref b62), .val (.ref b85), .unset, .unset, .unset] [(.int sB), (.int sA)])) _
            refine XS.icmpNo X102.here hx rfl (hb hby at_300) rfl (teq (hc143 : sA = sB)).2 ?_
            show Steps p.tables e below (T102.setTop (mkF m 303 #[.val (.long vs), .second, .val (.long vt_), .second, .val (.int vlens), .val (.int vssid), .val (.int vpick), .val (.int xa0), .val (.int xa1), .val (.int xa2), .val (.int xa3), .val (.int xa4), .val (.int xa5), .val (.int xb0), .val (.int xb1), .val (.int xb2), .val (.int xb3), .val (.int xb4), .val (.int xb5), .val (.int (3 : Int32)), .val (.int (Int32.ofNat nB)), .val (.int sA), .val (.int sB), .val (.ref xA), .val (.ref xB), .val (.ref b62), .val (.ref b85), .unset, .unset, .unset] [])) _
            refine XS.iload X102.here hx rfl (hb hby at_303) rfl ?_
            show Steps p.tables e below (T102.setTop (mkF m 305 #[.val (.long vs), .second, .val (.long vt_), .second, .val (.int vlens), .val (.int vssid), .val (.int vpick), .val (.int xa0), .val (.int xa1), .val (.int xa2), .val (.int xa3), .val (.int xa4), .val (.int xa5), .val (.int xb0), .val (.int xb1), .val (.int xb2), .val (.int xb3), .val (.int xb4), .val (.int xb5), .val (.int (3 : Int32)), .val (.int (Int32.ofNat nB)), .val (.int sA), .val (.int sB), .val (.ref xA), .val (.ref xB), .val (.ref b62), .val (.ref b85), .unset, .unset, .unset] [(.int xa0)])) _
            refine XS.iload X102.here hx rfl (hb hby at_305) rfl ?_
            exact kt
          by_cases hc145 : xa0 = xb0
          ·
            have pre146 : ∀ t, Steps p.tables e below (T102.setTop (mkF m 320 #[.val (.long vs), .second, .val (.long vt_), .second, .val (.int vlens), .val (.int vssid), .val (.int vpick), .val (.int xa0), .val (.int xa1), .val (.int xa2), .val (.int xa3), .val (.int xa4), .val (.int xa5), .val (.int xb0), .val (.int xb1), .val (.int xb2), .val (.int xb3), .val (.int xb4), .val (.int xb5), .val (.int (3 : Int32)), .val (.int (Int32.ofNat nB)), .val (.int sA), .val (.int sB), .val (.ref xA), .val (.ref xB), .val (.ref b62), .val (.ref b85), .unset, .unset, .unset] [(.int xb1), (.int xa1)])) t → Steps p.tables e below (s₁.setTop (entryFrame m #[(.long vs), (.long vt_), (.int vlens), (.int vssid), (.int vpick)] maxLocals)) t := by
              intro t kt
              refine pre144 t ?_
              show Steps p.tables e below (T102.setTop (mkF m 307 #[.val (.long vs), .second, .val (.long vt_), .second, .val (.int vlens), .val (.int vssid), .val (.int vpick), .val (.int xa0), .val (.int xa1), .val (.int xa2), .val (.int xa3), .val (.int xa4), .val (.int xa5), .val (.int xb0), .val (.int xb1), .val (.int xb2), .val (.int xb3), .val (.int xb4), .val (.int xb5), .val (.int (3 : Int32)), .val (.int (Int32.ofNat nB)), .val (.int sA), .val (.int sB), .val (.ref xA), .val (.ref xB), .val (.ref b62), .val (.ref b85), .unset, .unset, .unset] [(.int xb0), (.int xa0)])) _
              refine XS.icmpNo X102.here hx rfl (hb hby at_307) rfl (teq (hc145 : xa0 = xb0)).2 ?_
              show Steps p.tables e below (T102.setTop (mkF m 310 #[.val (.long vs), .second, .val (.long vt_), .second, .val (.int vlens), .val (.int vssid), .val (.int vpick), .val (.int xa0), .val (.int xa1), .val (.int xa2), .val (.int xa3), .val (.int xa4), .val (.int xa5), .val (.int xb0), .val (.int xb1), .val (.int xb2), .val (.int xb3), .val (.int xb4), .val (.int xb5), .val (.int (3 : Int32)), .val (.int (Int32.ofNat nB)), .val (.int sA), .val (.int sB), .val (.ref xA), .val (.ref xB), .val (.ref b62), .val (.ref b85), .unset, .unset, .unset] [])) _
              refine XS.iload X102.here hx rfl (hb hby at_310) rfl ?_
              show Steps p.tables e below (T102.setTop (mkF m 312 #[.val (.long vs), .second, .val (.long vt_), .second, .val (.int vlens), .val (.int vssid), .val (.int vpick), .val (.int xa0), .val (.int xa1), .val (.int xa2), .val (.int xa3), .val (.int xa4), .val (.int xa5), .val (.int xb0), .val (.int xb1), .val (.int xb2), .val (.int xb3), .val (.int xb4), .val (.int xb5), .val (.int (3 : Int32)), .val (.int (Int32.ofNat nB)), .val (.int sA), .val (.int sB), .val (.ref xA), .val (.ref xB), .val (.ref b62), .val (.ref b85), .unset, .unset, .unset] [(.int (3 : Int32))])) _
              refine XS.iconst X102.here hx rfl (hb hby at_312) ?_
              show Steps p.tables e below (T102.setTop (mkF m 313 #[.val (.long vs), .second, .val (.long vt_), .second, .val (.int vlens), .val (.int vssid), .val (.int vpick), .val (.int xa0), .val (.int xa1), .val (.int xa2), .val (.int xa3), .val (.int xa4), .val (.int xa5), .val (.int xb0), .val (.int xb1), .val (.int xb2), .val (.int xb3), .val (.int xb4), .val (.int xb5), .val (.int (3 : Int32)), .val (.int (Int32.ofNat nB)), .val (.int sA), .val (.int sB), .val (.ref xA), .val (.ref xB), .val (.ref b62), .val (.ref b85), .unset, .unset, .unset] [(.int (2 : Int32)), (.int (3 : Int32))])) _
              refine XS.icmpNo X102.here hx rfl (hb hby at_313) rfl (flt ((by decide) : ¬ ((3 : Int32) < (2 : Int32)))).1 ?_
              show Steps p.tables e below (T102.setTop (mkF m 316 #[.val (.long vs), .second, .val (.long vt_), .second, .val (.int vlens), .val (.int vssid), .val (.int vpick), .val (.int xa0), .val (.int xa1), .val (.int xa2), .val (.int xa3), .val (.int xa4), .val (.int xa5), .val (.int xb0), .val (.int xb1), .val (.int xb2), .val (.int xb3), .val (.int xb4), .val (.int xb5), .val (.int (3 : Int32)), .val (.int (Int32.ofNat nB)), .val (.int sA), .val (.int sB), .val (.ref xA), .val (.ref xB), .val (.ref b62), .val (.ref b85), .unset, .unset, .unset] [])) _
              refine XS.iload X102.here hx rfl (hb hby at_316) rfl ?_
              show Steps p.tables e below (T102.setTop (mkF m 318 #[.val (.long vs), .second, .val (.long vt_), .second, .val (.int vlens), .val (.int vssid), .val (.int vpick), .val (.int xa0), .val (.int xa1), .val (.int xa2), .val (.int xa3), .val (.int xa4), .val (.int xa5), .val (.int xb0), .val (.int xb1), .val (.int xb2), .val (.int xb3), .val (.int xb4), .val (.int xb5), .val (.int (3 : Int32)), .val (.int (Int32.ofNat nB)), .val (.int sA), .val (.int sB), .val (.ref xA), .val (.ref xB), .val (.ref b62), .val (.ref b85), .unset, .unset, .unset] [(.int xa1)])) _
              refine XS.iload X102.here hx rfl (hb hby at_318) rfl ?_
              exact kt
            by_cases hc147 : xa1 = xb1
            ·
              have pre148 : ∀ t, Steps p.tables e below (T102.setTop (mkF m 333 #[.val (.long vs), .second, .val (.long vt_), .second, .val (.int vlens), .val (.int vssid), .val (.int vpick), .val (.int xa0), .val (.int xa1), .val (.int xa2), .val (.int xa3), .val (.int xa4), .val (.int xa5), .val (.int xb0), .val (.int xb1), .val (.int xb2), .val (.int xb3), .val (.int xb4), .val (.int xb5), .val (.int (3 : Int32)), .val (.int (Int32.ofNat nB)), .val (.int sA), .val (.int sB), .val (.ref xA), .val (.ref xB), .val (.ref b62), .val (.ref b85), .unset, .unset, .unset] [(.int xb2), (.int xa2)])) t → Steps p.tables e below (s₁.setTop (entryFrame m #[(.long vs), (.long vt_), (.int vlens), (.int vssid), (.int vpick)] maxLocals)) t := by
                intro t kt
                refine pre146 t ?_
                show Steps p.tables e below (T102.setTop (mkF m 320 #[.val (.long vs), .second, .val (.long vt_), .second, .val (.int vlens), .val (.int vssid), .val (.int vpick), .val (.int xa0), .val (.int xa1), .val (.int xa2), .val (.int xa3), .val (.int xa4), .val (.int xa5), .val (.int xb0), .val (.int xb1), .val (.int xb2), .val (.int xb3), .val (.int xb4), .val (.int xb5), .val (.int (3 : Int32)), .val (.int (Int32.ofNat nB)), .val (.int sA), .val (.int sB), .val (.ref xA), .val (.ref xB), .val (.ref b62), .val (.ref b85), .unset, .unset, .unset] [(.int xb1), (.int xa1)])) _
                refine XS.icmpNo X102.here hx rfl (hb hby at_320) rfl (teq (hc147 : xa1 = xb1)).2 ?_
                show Steps p.tables e below (T102.setTop (mkF m 323 #[.val (.long vs), .second, .val (.long vt_), .second, .val (.int vlens), .val (.int vssid), .val (.int vpick), .val (.int xa0), .val (.int xa1), .val (.int xa2), .val (.int xa3), .val (.int xa4), .val (.int xa5), .val (.int xb0), .val (.int xb1), .val (.int xb2), .val (.int xb3), .val (.int xb4), .val (.int xb5), .val (.int (3 : Int32)), .val (.int (Int32.ofNat nB)), .val (.int sA), .val (.int sB), .val (.ref xA), .val (.ref xB), .val (.ref b62), .val (.ref b85), .unset, .unset, .unset] [])) _
                refine XS.iload X102.here hx rfl (hb hby at_323) rfl ?_
                show Steps p.tables e below (T102.setTop (mkF m 325 #[.val (.long vs), .second, .val (.long vt_), .second, .val (.int vlens), .val (.int vssid), .val (.int vpick), .val (.int xa0), .val (.int xa1), .val (.int xa2), .val (.int xa3), .val (.int xa4), .val (.int xa5), .val (.int xb0), .val (.int xb1), .val (.int xb2), .val (.int xb3), .val (.int xb4), .val (.int xb5), .val (.int (3 : Int32)), .val (.int (Int32.ofNat nB)), .val (.int sA), .val (.int sB), .val (.ref xA), .val (.ref xB), .val (.ref b62), .val (.ref b85), .unset, .unset, .unset] [(.int (3 : Int32))])) _
                refine XS.iconst X102.here hx rfl (hb hby at_325) ?_
                show Steps p.tables e below (T102.setTop (mkF m 326 #[.val (.long vs), .second, .val (.long vt_), .second, .val (.int vlens), .val (.int vssid), .val (.int vpick), .val (.int xa0), .val (.int xa1), .val (.int xa2), .val (.int xa3), .val (.int xa4), .val (.int xa5), .val (.int xb0), .val (.int xb1), .val (.int xb2), .val (.int xb3), .val (.int xb4), .val (.int xb5), .val (.int (3 : Int32)), .val (.int (Int32.ofNat nB)), .val (.int sA), .val (.int sB), .val (.ref xA), .val (.ref xB), .val (.ref b62), .val (.ref b85), .unset, .unset, .unset] [(.int (3 : Int32)), (.int (3 : Int32))])) _
                refine XS.icmpNo X102.here hx rfl (hb hby at_326) rfl (flt ((by decide) : ¬ ((3 : Int32) < (3 : Int32)))).1 ?_
                show Steps p.tables e below (T102.setTop (mkF m 329 #[.val (.long vs), .second, .val (.long vt_), .second, .val (.int vlens), .val (.int vssid), .val (.int vpick), .val (.int xa0), .val (.int xa1), .val (.int xa2), .val (.int xa3), .val (.int xa4), .val (.int xa5), .val (.int xb0), .val (.int xb1), .val (.int xb2), .val (.int xb3), .val (.int xb4), .val (.int xb5), .val (.int (3 : Int32)), .val (.int (Int32.ofNat nB)), .val (.int sA), .val (.int sB), .val (.ref xA), .val (.ref xB), .val (.ref b62), .val (.ref b85), .unset, .unset, .unset] [])) _
                refine XS.iload X102.here hx rfl (hb hby at_329) rfl ?_
                show Steps p.tables e below (T102.setTop (mkF m 331 #[.val (.long vs), .second, .val (.long vt_), .second, .val (.int vlens), .val (.int vssid), .val (.int vpick), .val (.int xa0), .val (.int xa1), .val (.int xa2), .val (.int xa3), .val (.int xa4), .val (.int xa5), .val (.int xb0), .val (.int xb1), .val (.int xb2), .val (.int xb3), .val (.int xb4), .val (.int xb5), .val (.int (3 : Int32)), .val (.int (Int32.ofNat nB)), .val (.int sA), .val (.int sB), .val (.ref xA), .val (.ref xB), .val (.ref b62), .val (.ref b85), .unset, .unset, .unset] [(.int xa2)])) _
                refine XS.iload X102.here hx rfl (hb hby at_331) rfl ?_
                exact kt
              by_cases hc149 : xa2 = xb2
              ·
                have pre150 : ∀ t, Steps p.tables e below (T102.setTop (mkF m 381 #[.val (.long vs), .second, .val (.long vt_), .second, .val (.int vlens), .val (.int vssid), .val (.int vpick), .val (.int xa0), .val (.int xa1), .val (.int xa2), .val (.int xa3), .val (.int xa4), .val (.int xa5), .val (.int xb0), .val (.int xb1), .val (.int xb2), .val (.int xb3), .val (.int xb4), .val (.int xb5), .val (.int (3 : Int32)), .val (.int (Int32.ofNat nB)), .val (.int sA), .val (.int sB), .val (.ref xA), .val (.ref xB), .val (.ref b62), .val (.ref b85), .unset, .unset, .unset] [(.int (1 : Int32))])) t → Steps p.tables e below (s₁.setTop (entryFrame m #[(.long vs), (.long vt_), (.int vlens), (.int vssid), (.int vpick)] maxLocals)) t := by
                  intro t kt
                  refine pre148 t ?_
                  show Steps p.tables e below (T102.setTop (mkF m 333 #[.val (.long vs), .second, .val (.long vt_), .second, .val (.int vlens), .val (.int vssid), .val (.int vpick), .val (.int xa0), .val (.int xa1), .val (.int xa2), .val (.int xa3), .val (.int xa4), .val (.int xa5), .val (.int xb0), .val (.int xb1), .val (.int xb2), .val (.int xb3), .val (.int xb4), .val (.int xb5), .val (.int (3 : Int32)), .val (.int (Int32.ofNat nB)), .val (.int sA), .val (.int sB), .val (.ref xA), .val (.ref xB), .val (.ref b62), .val (.ref b85), .unset, .unset, .unset] [(.int xb2), (.int xa2)])) _
                  refine XS.icmpNo X102.here hx rfl (hb hby at_333) rfl (teq (hc149 : xa2 = xb2)).2 ?_
                  show Steps p.tables e below (T102.setTop (mkF m 336 #[.val (.long vs), .second, .val (.long vt_), .second, .val (.int vlens), .val (.int vssid), .val (.int vpick), .val (.int xa0), .val (.int xa1), .val (.int xa2), .val (.int xa3), .val (.int xa4), .val (.int xa5), .val (.int xb0), .val (.int xb1), .val (.int xb2), .val (.int xb3), .val (.int xb4), .val (.int xb5), .val (.int (3 : Int32)), .val (.int (Int32.ofNat nB)), .val (.int sA), .val (.int sB), .val (.ref xA), .val (.ref xB), .val (.ref b62), .val (.ref b85), .unset, .unset, .unset] [])) _
                  refine XS.iload X102.here hx rfl (hb hby at_336) rfl ?_
                  show Steps p.tables e below (T102.setTop (mkF m 338 #[.val (.long vs), .second, .val (.long vt_), .second, .val (.int vlens), .val (.int vssid), .val (.int vpick), .val (.int xa0), .val (.int xa1), .val (.int xa2), .val (.int xa3), .val (.int xa4), .val (.int xa5), .val (.int xb0), .val (.int xb1), .val (.int xb2), .val (.int xb3), .val (.int xb4), .val (.int xb5), .val (.int (3 : Int32)), .val (.int (Int32.ofNat nB)), .val (.int sA), .val (.int sB), .val (.ref xA), .val (.ref xB), .val (.ref b62), .val (.ref b85), .unset, .unset, .unset] [(.int (3 : Int32))])) _
                  refine XS.iconst X102.here hx rfl (hb hby at_338) ?_
                  show Steps p.tables e below (T102.setTop (mkF m 339 #[.val (.long vs), .second, .val (.long vt_), .second, .val (.int vlens), .val (.int vssid), .val (.int vpick), .val (.int xa0), .val (.int xa1), .val (.int xa2), .val (.int xa3), .val (.int xa4), .val (.int xa5), .val (.int xb0), .val (.int xb1), .val (.int xb2), .val (.int xb3), .val (.int xb4), .val (.int xb5), .val (.int (3 : Int32)), .val (.int (Int32.ofNat nB)), .val (.int sA), .val (.int sB), .val (.ref xA), .val (.ref xB), .val (.ref b62), .val (.ref b85), .unset, .unset, .unset] [(.int (4 : Int32)), (.int (3 : Int32))])) _
                  refine XS.icmpYes X102.here hx rfl (pc0 := 339) (pc' := 349) rfl (hb hby at_339) rfl (tlt ((by decide) : (3 : Int32) < (4 : Int32))).1 (by decide) (by decide) ?_
                  show Steps p.tables e below (T102.setTop (mkF m 349 #[.val (.long vs), .second, .val (.long vt_), .second, .val (.int vlens), .val (.int vssid), .val (.int vpick), .val (.int xa0), .val (.int xa1), .val (.int xa2), .val (.int xa3), .val (.int xa4), .val (.int xa5), .val (.int xb0), .val (.int xb1), .val (.int xb2), .val (.int xb3), .val (.int xb4), .val (.int xb5), .val (.int (3 : Int32)), .val (.int (Int32.ofNat nB)), .val (.int sA), .val (.int sB), .val (.ref xA), .val (.ref xB), .val (.ref b62), .val (.ref b85), .unset, .unset, .unset] [])) _
                  refine XS.iload X102.here hx rfl (hb hby at_349) rfl ?_
                  show Steps p.tables e below (T102.setTop (mkF m 351 #[.val (.long vs), .second, .val (.long vt_), .second, .val (.int vlens), .val (.int vssid), .val (.int vpick), .val (.int xa0), .val (.int xa1), .val (.int xa2), .val (.int xa3), .val (.int xa4), .val (.int xa5), .val (.int xb0), .val (.int xb1), .val (.int xb2), .val (.int xb3), .val (.int xb4), .val (.int xb5), .val (.int (3 : Int32)), .val (.int (Int32.ofNat nB)), .val (.int sA), .val (.int sB), .val (.ref xA), .val (.ref xB), .val (.ref b62), .val (.ref b85), .unset, .unset, .unset] [(.int (3 : Int32))])) _
                  refine XS.iconst X102.here hx rfl (hb hby at_351) ?_
                  show Steps p.tables e below (T102.setTop (mkF m 352 #[.val (.long vs), .second, .val (.long vt_), .second, .val (.int vlens), .val (.int vssid), .val (.int vpick), .val (.int xa0), .val (.int xa1), .val (.int xa2), .val (.int xa3), .val (.int xa4), .val (.int xa5), .val (.int xb0), .val (.int xb1), .val (.int xb2), .val (.int xb3), .val (.int xb4), .val (.int xb5), .val (.int (3 : Int32)), .val (.int (Int32.ofNat nB)), .val (.int sA), .val (.int sB), .val (.ref xA), .val (.ref xB), .val (.ref b62), .val (.ref b85), .unset, .unset, .unset] [(.int (5 : Int32)), (.int (3 : Int32))])) _
                  refine XS.icmpYes X102.here hx rfl (pc0 := 352) (pc' := 362) rfl (hb hby at_352) rfl (tlt ((by decide) : (3 : Int32) < (5 : Int32))).1 (by decide) (by decide) ?_
                  show Steps p.tables e below (T102.setTop (mkF m 362 #[.val (.long vs), .second, .val (.long vt_), .second, .val (.int vlens), .val (.int vssid), .val (.int vpick), .val (.int xa0), .val (.int xa1), .val (.int xa2), .val (.int xa3), .val (.int xa4), .val (.int xa5), .val (.int xb0), .val (.int xb1), .val (.int xb2), .val (.int xb3), .val (.int xb4), .val (.int xb5), .val (.int (3 : Int32)), .val (.int (Int32.ofNat nB)), .val (.int sA), .val (.int sB), .val (.ref xA), .val (.ref xB), .val (.ref b62), .val (.ref b85), .unset, .unset, .unset] [])) _
                  refine XS.iload X102.here hx rfl (hb hby at_362) rfl ?_
                  show Steps p.tables e below (T102.setTop (mkF m 364 #[.val (.long vs), .second, .val (.long vt_), .second, .val (.int vlens), .val (.int vssid), .val (.int vpick), .val (.int xa0), .val (.int xa1), .val (.int xa2), .val (.int xa3), .val (.int xa4), .val (.int xa5), .val (.int xb0), .val (.int xb1), .val (.int xb2), .val (.int xb3), .val (.int xb4), .val (.int xb5), .val (.int (3 : Int32)), .val (.int (Int32.ofNat nB)), .val (.int sA), .val (.int sB), .val (.ref xA), .val (.ref xB), .val (.ref b62), .val (.ref b85), .unset, .unset, .unset] [(.int (3 : Int32))])) _
                  refine XS.bipush X102.here hx rfl (hb hby at_364) ?_
                  show Steps p.tables e below (T102.setTop (mkF m 366 #[.val (.long vs), .second, .val (.long vt_), .second, .val (.int vlens), .val (.int vssid), .val (.int vpick), .val (.int xa0), .val (.int xa1), .val (.int xa2), .val (.int xa3), .val (.int xa4), .val (.int xa5), .val (.int xb0), .val (.int xb1), .val (.int xb2), .val (.int xb3), .val (.int xb4), .val (.int xb5), .val (.int (3 : Int32)), .val (.int (Int32.ofNat nB)), .val (.int sA), .val (.int sB), .val (.ref xA), .val (.ref xB), .val (.ref b62), .val (.ref b85), .unset, .unset, .unset] [(.int (6 : Int32)), (.int (3 : Int32))])) _
                  refine XS.icmpYes X102.here hx rfl (pc0 := 366) (pc' := 376) rfl (hb hby at_366) rfl (tlt ((by decide) : (3 : Int32) < (6 : Int32))).1 (by decide) (by decide) ?_
                  show Steps p.tables e below (T102.setTop (mkF m 376 #[.val (.long vs), .second, .val (.long vt_), .second, .val (.int vlens), .val (.int vssid), .val (.int vpick), .val (.int xa0), .val (.int xa1), .val (.int xa2), .val (.int xa3), .val (.int xa4), .val (.int xa5), .val (.int xb0), .val (.int xb1), .val (.int xb2), .val (.int xb3), .val (.int xb4), .val (.int xb5), .val (.int (3 : Int32)), .val (.int (Int32.ofNat nB)), .val (.int sA), .val (.int sB), .val (.ref xA), .val (.ref xB), .val (.ref b62), .val (.ref b85), .unset, .unset, .unset] [])) _
                  refine XS.iconst X102.here hx rfl (hb hby at_376) ?_
                  show Steps p.tables e below (T102.setTop (mkF m 377 #[.val (.long vs), .second, .val (.long vt_), .second, .val (.int vlens), .val (.int vssid), .val (.int vpick), .val (.int xa0), .val (.int xa1), .val (.int xa2), .val (.int xa3), .val (.int xa4), .val (.int xa5), .val (.int xb0), .val (.int xb1), .val (.int xb2), .val (.int xb3), .val (.int xb4), .val (.int xb5), .val (.int (3 : Int32)), .val (.int (Int32.ofNat nB)), .val (.int sA), .val (.int sB), .val (.ref xA), .val (.ref xB), .val (.ref b62), .val (.ref b85), .unset, .unset, .unset] [(.int (1 : Int32))])) _
                  refine XS.goto X102.here hx rfl (pc0 := 377) (pc' := 381) rfl (hb hby at_377) (by decide) (by decide) ?_
                  exact kt
                exact ⟨T102, _, X102, rfl, N102, fun t kt => pre150 t (by have q : (own_same (Int32.ofNat 3) (Int32.ofNat nB) sA sB xa0 xa1 xa2 xa3 xa4 xa5 xb0 xb1 xb2 xb3 xb4 xb5) = (1 : Int32) := by { rw [own_same]; exact if_pos ⟨hc141, hc143, hc145, Or.inr hc147, Or.inr hc149, Or.inl (by decide), Or.inl (by decide), Or.inl (by decide)⟩ }; rw [q] at kt; exact kt)⟩
              ·
                have pre151 : ∀ t, Steps p.tables e below (T102.setTop (mkF m 381 #[.val (.long vs), .second, .val (.long vt_), .second, .val (.int vlens), .val (.int vssid), .val (.int vpick), .val (.int xa0), .val (.int xa1), .val (.int xa2), .val (.int xa3), .val (.int xa4), .val (.int xa5), .val (.int xb0), .val (.int xb1), .val (.int xb2), .val (.int xb3), .val (.int xb4), .val (.int xb5), .val (.int (3 : Int32)), .val (.int (Int32.ofNat nB)), .val (.int sA), .val (.int sB), .val (.ref xA), .val (.ref xB), .val (.ref b62), .val (.ref b85), .unset, .unset, .unset] [(.int (0 : Int32))])) t → Steps p.tables e below (s₁.setTop (entryFrame m #[(.long vs), (.long vt_), (.int vlens), (.int vssid), (.int vpick)] maxLocals)) t := by
                  intro t kt
                  refine pre148 t ?_
                  show Steps p.tables e below (T102.setTop (mkF m 333 #[.val (.long vs), .second, .val (.long vt_), .second, .val (.int vlens), .val (.int vssid), .val (.int vpick), .val (.int xa0), .val (.int xa1), .val (.int xa2), .val (.int xa3), .val (.int xa4), .val (.int xa5), .val (.int xb0), .val (.int xb1), .val (.int xb2), .val (.int xb3), .val (.int xb4), .val (.int xb5), .val (.int (3 : Int32)), .val (.int (Int32.ofNat nB)), .val (.int sA), .val (.int sB), .val (.ref xA), .val (.ref xB), .val (.ref b62), .val (.ref b85), .unset, .unset, .unset] [(.int xb2), (.int xa2)])) _
                  refine XS.icmpYes X102.here hx rfl (pc0 := 333) (pc' := 380) rfl (hb hby at_333) rfl (feq (hc149 : ¬ (xa2 = xb2))).2 (by decide) (by decide) ?_
                  show Steps p.tables e below (T102.setTop (mkF m 380 #[.val (.long vs), .second, .val (.long vt_), .second, .val (.int vlens), .val (.int vssid), .val (.int vpick), .val (.int xa0), .val (.int xa1), .val (.int xa2), .val (.int xa3), .val (.int xa4), .val (.int xa5), .val (.int xb0), .val (.int xb1), .val (.int xb2), .val (.int xb3), .val (.int xb4), .val (.int xb5), .val (.int (3 : Int32)), .val (.int (Int32.ofNat nB)), .val (.int sA), .val (.int sB), .val (.ref xA), .val (.ref xB), .val (.ref b62), .val (.ref b85), .unset, .unset, .unset] [])) _
                  refine XS.iconst X102.here hx rfl (hb hby at_380) ?_
                  exact kt
                exact ⟨T102, _, X102, rfl, N102, fun t kt => pre151 t (by have q : (own_same (Int32.ofNat 3) (Int32.ofNat nB) sA sB xa0 xa1 xa2 xa3 xa4 xa5 xb0 xb1 xb2 xb3 xb4 xb5) = (0 : Int32) := by { rw [own_same]; exact if_neg (fun q => hc149 (q.2.2.2.2.1.resolve_left (by decide))) }; rw [q] at kt; exact kt)⟩
            ·
              have pre152 : ∀ t, Steps p.tables e below (T102.setTop (mkF m 381 #[.val (.long vs), .second, .val (.long vt_), .second, .val (.int vlens), .val (.int vssid), .val (.int vpick), .val (.int xa0), .val (.int xa1), .val (.int xa2), .val (.int xa3), .val (.int xa4), .val (.int xa5), .val (.int xb0), .val (.int xb1), .val (.int xb2), .val (.int xb3), .val (.int xb4), .val (.int xb5), .val (.int (3 : Int32)), .val (.int (Int32.ofNat nB)), .val (.int sA), .val (.int sB), .val (.ref xA), .val (.ref xB), .val (.ref b62), .val (.ref b85), .unset, .unset, .unset] [(.int (0 : Int32))])) t → Steps p.tables e below (s₁.setTop (entryFrame m #[(.long vs), (.long vt_), (.int vlens), (.int vssid), (.int vpick)] maxLocals)) t := by
                intro t kt
                refine pre146 t ?_
                show Steps p.tables e below (T102.setTop (mkF m 320 #[.val (.long vs), .second, .val (.long vt_), .second, .val (.int vlens), .val (.int vssid), .val (.int vpick), .val (.int xa0), .val (.int xa1), .val (.int xa2), .val (.int xa3), .val (.int xa4), .val (.int xa5), .val (.int xb0), .val (.int xb1), .val (.int xb2), .val (.int xb3), .val (.int xb4), .val (.int xb5), .val (.int (3 : Int32)), .val (.int (Int32.ofNat nB)), .val (.int sA), .val (.int sB), .val (.ref xA), .val (.ref xB), .val (.ref b62), .val (.ref b85), .unset, .unset, .unset] [(.int xb1), (.int xa1)])) _
                refine XS.icmpYes X102.here hx rfl (pc0 := 320) (pc' := 380) rfl (hb hby at_320) rfl (feq (hc147 : ¬ (xa1 = xb1))).2 (by decide) (by decide) ?_
                show Steps p.tables e below (T102.setTop (mkF m 380 #[.val (.long vs), .second, .val (.long vt_), .second, .val (.int vlens), .val (.int vssid), .val (.int vpick), .val (.int xa0), .val (.int xa1), .val (.int xa2), .val (.int xa3), .val (.int xa4), .val (.int xa5), .val (.int xb0), .val (.int xb1), .val (.int xb2), .val (.int xb3), .val (.int xb4), .val (.int xb5), .val (.int (3 : Int32)), .val (.int (Int32.ofNat nB)), .val (.int sA), .val (.int sB), .val (.ref xA), .val (.ref xB), .val (.ref b62), .val (.ref b85), .unset, .unset, .unset] [])) _
                refine XS.iconst X102.here hx rfl (hb hby at_380) ?_
                exact kt
              exact ⟨T102, _, X102, rfl, N102, fun t kt => pre152 t (by have q : (own_same (Int32.ofNat 3) (Int32.ofNat nB) sA sB xa0 xa1 xa2 xa3 xa4 xa5 xb0 xb1 xb2 xb3 xb4 xb5) = (0 : Int32) := by { rw [own_same]; exact if_neg (fun q => hc147 (q.2.2.2.1.resolve_left (by decide))) }; rw [q] at kt; exact kt)⟩
          ·
            have pre153 : ∀ t, Steps p.tables e below (T102.setTop (mkF m 381 #[.val (.long vs), .second, .val (.long vt_), .second, .val (.int vlens), .val (.int vssid), .val (.int vpick), .val (.int xa0), .val (.int xa1), .val (.int xa2), .val (.int xa3), .val (.int xa4), .val (.int xa5), .val (.int xb0), .val (.int xb1), .val (.int xb2), .val (.int xb3), .val (.int xb4), .val (.int xb5), .val (.int (3 : Int32)), .val (.int (Int32.ofNat nB)), .val (.int sA), .val (.int sB), .val (.ref xA), .val (.ref xB), .val (.ref b62), .val (.ref b85), .unset, .unset, .unset] [(.int (0 : Int32))])) t → Steps p.tables e below (s₁.setTop (entryFrame m #[(.long vs), (.long vt_), (.int vlens), (.int vssid), (.int vpick)] maxLocals)) t := by
              intro t kt
              refine pre144 t ?_
              show Steps p.tables e below (T102.setTop (mkF m 307 #[.val (.long vs), .second, .val (.long vt_), .second, .val (.int vlens), .val (.int vssid), .val (.int vpick), .val (.int xa0), .val (.int xa1), .val (.int xa2), .val (.int xa3), .val (.int xa4), .val (.int xa5), .val (.int xb0), .val (.int xb1), .val (.int xb2), .val (.int xb3), .val (.int xb4), .val (.int xb5), .val (.int (3 : Int32)), .val (.int (Int32.ofNat nB)), .val (.int sA), .val (.int sB), .val (.ref xA), .val (.ref xB), .val (.ref b62), .val (.ref b85), .unset, .unset, .unset] [(.int xb0), (.int xa0)])) _
              refine XS.icmpYes X102.here hx rfl (pc0 := 307) (pc' := 380) rfl (hb hby at_307) rfl (feq (hc145 : ¬ (xa0 = xb0))).2 (by decide) (by decide) ?_
              show Steps p.tables e below (T102.setTop (mkF m 380 #[.val (.long vs), .second, .val (.long vt_), .second, .val (.int vlens), .val (.int vssid), .val (.int vpick), .val (.int xa0), .val (.int xa1), .val (.int xa2), .val (.int xa3), .val (.int xa4), .val (.int xa5), .val (.int xb0), .val (.int xb1), .val (.int xb2), .val (.int xb3), .val (.int xb4), .val (.int xb5), .val (.int (3 : Int32)), .val (.int (Int32.ofNat nB)), .val (.int sA), .val (.int sB), .val (.ref xA), .val (.ref xB), .val (.ref b62), .val (.ref b85), .unset, .unset, .unset] [])) _
              refine XS.iconst X102.here hx rfl (hb hby at_380) ?_
              exact kt
            exact ⟨T102, _, X102, rfl, N102, fun t kt => pre153 t (by have q : (own_same (Int32.ofNat 3) (Int32.ofNat nB) sA sB xa0 xa1 xa2 xa3 xa4 xa5 xb0 xb1 xb2 xb3 xb4 xb5) = (0 : Int32) := by { rw [own_same]; exact if_neg (fun q => hc145 q.2.2.1) }; rw [q] at kt; exact kt)⟩
        ·
          have pre154 : ∀ t, Steps p.tables e below (T102.setTop (mkF m 381 #[.val (.long vs), .second, .val (.long vt_), .second, .val (.int vlens), .val (.int vssid), .val (.int vpick), .val (.int xa0), .val (.int xa1), .val (.int xa2), .val (.int xa3), .val (.int xa4), .val (.int xa5), .val (.int xb0), .val (.int xb1), .val (.int xb2), .val (.int xb3), .val (.int xb4), .val (.int xb5), .val (.int (3 : Int32)), .val (.int (Int32.ofNat nB)), .val (.int sA), .val (.int sB), .val (.ref xA), .val (.ref xB), .val (.ref b62), .val (.ref b85), .unset, .unset, .unset] [(.int (0 : Int32))])) t → Steps p.tables e below (s₁.setTop (entryFrame m #[(.long vs), (.long vt_), (.int vlens), (.int vssid), (.int vpick)] maxLocals)) t := by
            intro t kt
            refine pre142 t ?_
            show Steps p.tables e below (T102.setTop (mkF m 300 #[.val (.long vs), .second, .val (.long vt_), .second, .val (.int vlens), .val (.int vssid), .val (.int vpick), .val (.int xa0), .val (.int xa1), .val (.int xa2), .val (.int xa3), .val (.int xa4), .val (.int xa5), .val (.int xb0), .val (.int xb1), .val (.int xb2), .val (.int xb3), .val (.int xb4), .val (.int xb5), .val (.int (3 : Int32)), .val (.int (Int32.ofNat nB)), .val (.int sA), .val (.int sB), .val (.ref xA), .val (.ref xB), .val (.ref b62), .val (.ref b85), .unset, .unset, .unset] [(.int sB), (.int sA)])) _
            refine XS.icmpYes X102.here hx rfl (pc0 := 300) (pc' := 380) rfl (hb hby at_300) rfl (feq (hc143 : ¬ (sA = sB))).2 (by decide) (by decide) ?_
            show Steps p.tables e below (T102.setTop (mkF m 380 #[.val (.long vs), .second, .val (.long vt_), .second, .val (.int vlens), .val (.int vssid), .val (.int vpick), .val (.int xa0), .val (.int xa1), .val (.int xa2), .val (.int xa3), .val (.int xa4), .val (.int xa5), .val (.int xb0), .val (.int xb1), .val (.int xb2), .val (.int xb3), .val (.int xb4), .val (.int xb5), .val (.int (3 : Int32)), .val (.int (Int32.ofNat nB)), .val (.int sA), .val (.int sB), .val (.ref xA), .val (.ref xB), .val (.ref b62), .val (.ref b85), .unset, .unset, .unset] [])) _
            refine XS.iconst X102.here hx rfl (hb hby at_380) ?_
            exact kt
          exact ⟨T102, _, X102, rfl, N102, fun t kt => pre154 t (by have q : (own_same (Int32.ofNat 3) (Int32.ofNat nB) sA sB xa0 xa1 xa2 xa3 xa4 xa5 xb0 xb1 xb2 xb3 xb4 xb5) = (0 : Int32) := by { rw [own_same]; exact if_neg (fun q => hc143 q.2.1) }; rw [q] at kt; exact kt)⟩
      ·
        have pre155 : ∀ t, Steps p.tables e below (T102.setTop (mkF m 381 #[.val (.long vs), .second, .val (.long vt_), .second, .val (.int vlens), .val (.int vssid), .val (.int vpick), .val (.int xa0), .val (.int xa1), .val (.int xa2), .val (.int xa3), .val (.int xa4), .val (.int xa5), .val (.int xb0), .val (.int xb1), .val (.int xb2), .val (.int xb3), .val (.int xb4), .val (.int xb5), .val (.int (3 : Int32)), .val (.int (Int32.ofNat nB)), .val (.int sA), .val (.int sB), .val (.ref xA), .val (.ref xB), .val (.ref b62), .val (.ref b85), .unset, .unset, .unset] [(.int (0 : Int32))])) t → Steps p.tables e below (s₁.setTop (entryFrame m #[(.long vs), (.long vt_), (.int vlens), (.int vssid), (.int vpick)] maxLocals)) t := by
          intro t kt
          refine pre140 t ?_
          show Steps p.tables e below (T102.setTop (mkF m 293 #[.val (.long vs), .second, .val (.long vt_), .second, .val (.int vlens), .val (.int vssid), .val (.int vpick), .val (.int xa0), .val (.int xa1), .val (.int xa2), .val (.int xa3), .val (.int xa4), .val (.int xa5), .val (.int xb0), .val (.int xb1), .val (.int xb2), .val (.int xb3), .val (.int xb4), .val (.int xb5), .val (.int (3 : Int32)), .val (.int (Int32.ofNat nB)), .val (.int sA), .val (.int sB), .val (.ref xA), .val (.ref xB), .val (.ref b62), .val (.ref b85), .unset, .unset, .unset] [(.int (Int32.ofNat nB)), (.int (3 : Int32))])) _
          refine XS.icmpYes X102.here hx rfl (pc0 := 293) (pc' := 380) rfl (hb hby at_293) rfl (feq (hc141 : ¬ ((3 : Int32) = (Int32.ofNat nB)))).2 (by decide) (by decide) ?_
          show Steps p.tables e below (T102.setTop (mkF m 380 #[.val (.long vs), .second, .val (.long vt_), .second, .val (.int vlens), .val (.int vssid), .val (.int vpick), .val (.int xa0), .val (.int xa1), .val (.int xa2), .val (.int xa3), .val (.int xa4), .val (.int xa5), .val (.int xb0), .val (.int xb1), .val (.int xb2), .val (.int xb3), .val (.int xb4), .val (.int xb5), .val (.int (3 : Int32)), .val (.int (Int32.ofNat nB)), .val (.int sA), .val (.int sB), .val (.ref xA), .val (.ref xB), .val (.ref b62), .val (.ref b85), .unset, .unset, .unset] [])) _
          refine XS.iconst X102.here hx rfl (hb hby at_380) ?_
          exact kt
        exact ⟨T102, _, X102, rfl, N102, fun t kt => pre155 t (by have q : (own_same (Int32.ofNat 3) (Int32.ofNat nB) sA sB xa0 xa1 xa2 xa3 xa4 xa5 xb0 xb1 xb2 xb3 xb4 xb5) = (0 : Int32) := by { rw [own_same]; exact if_neg (fun q => hc141 q.1) }; rw [q] at kt; exact kt)⟩
    ·
      have pre116_4 : ∀ t, Steps p.tables e below (T102.setTop (mkF m 289 #[.val (.long vs), .second, .val (.long vt_), .second, .val (.int vlens), .val (.int vssid), .val (.int vpick), .val (.int xa0), .val (.int xa1), .val (.int xa2), .val (.int xa3), .val (.int xa4), .val (.int xa5), .val (.int xb0), .val (.int xb1), .val (.int xb2), .val (.int xb3), .val (.int xb4), .val (.int xb5), .val (.int (4 : Int32)), .val (.int (Int32.ofNat nB)), .val (.int sA), .val (.int sB), .val (.ref xA), .val (.ref xB), .val (.ref b62), .val (.ref b85), .unset, .unset, .unset] [])) t → Steps p.tables e below (s₁.setTop (entryFrame m #[(.long vs), (.long vt_), (.int vlens), (.int vssid), (.int vpick)] maxLocals)) t := pre115
      have pre156 : ∀ t, Steps p.tables e below (T102.setTop (mkF m 293 #[.val (.long vs), .second, .val (.long vt_), .second, .val (.int vlens), .val (.int vssid), .val (.int vpick), .val (.int xa0), .val (.int xa1), .val (.int xa2), .val (.int xa3), .val (.int xa4), .val (.int xa5), .val (.int xb0), .val (.int xb1), .val (.int xb2), .val (.int xb3), .val (.int xb4), .val (.int xb5), .val (.int (4 : Int32)), .val (.int (Int32.ofNat nB)), .val (.int sA), .val (.int sB), .val (.ref xA), .val (.ref xB), .val (.ref b62), .val (.ref b85), .unset, .unset, .unset] [(.int (Int32.ofNat nB)), (.int (4 : Int32))])) t → Steps p.tables e below (s₁.setTop (entryFrame m #[(.long vs), (.long vt_), (.int vlens), (.int vssid), (.int vpick)] maxLocals)) t := by
        intro t kt
        refine pre116_4 t ?_
        show Steps p.tables e below (T102.setTop (mkF m 289 #[.val (.long vs), .second, .val (.long vt_), .second, .val (.int vlens), .val (.int vssid), .val (.int vpick), .val (.int xa0), .val (.int xa1), .val (.int xa2), .val (.int xa3), .val (.int xa4), .val (.int xa5), .val (.int xb0), .val (.int xb1), .val (.int xb2), .val (.int xb3), .val (.int xb4), .val (.int xb5), .val (.int (4 : Int32)), .val (.int (Int32.ofNat nB)), .val (.int sA), .val (.int sB), .val (.ref xA), .val (.ref xB), .val (.ref b62), .val (.ref b85), .unset, .unset, .unset] [])) _
        refine XS.iload X102.here hx rfl (hb hby at_289) rfl ?_
        show Steps p.tables e below (T102.setTop (mkF m 291 #[.val (.long vs), .second, .val (.long vt_), .second, .val (.int vlens), .val (.int vssid), .val (.int vpick), .val (.int xa0), .val (.int xa1), .val (.int xa2), .val (.int xa3), .val (.int xa4), .val (.int xa5), .val (.int xb0), .val (.int xb1), .val (.int xb2), .val (.int xb3), .val (.int xb4), .val (.int xb5), .val (.int (4 : Int32)), .val (.int (Int32.ofNat nB)), .val (.int sA), .val (.int sB), .val (.ref xA), .val (.ref xB), .val (.ref b62), .val (.ref b85), .unset, .unset, .unset] [(.int (4 : Int32))])) _
        refine XS.iload X102.here hx rfl (hb hby at_291) rfl ?_
        exact kt
      by_cases hc157 : (4 : Int32) = (Int32.ofNat nB)
      ·
        have pre158 : ∀ t, Steps p.tables e below (T102.setTop (mkF m 300 #[.val (.long vs), .second, .val (.long vt_), .second, .val (.int vlens), .val (.int vssid), .val (.int vpick), .val (.int xa0), .val (.int xa1), .val (.int xa2), .val (.int xa3), .val (.int xa4), .val (.int xa5), .val (.int xb0), .val (.int xb1), .val (.int xb2), .val (.int xb3), .val (.int xb4), .val (.int xb5), .val (.int (4 : Int32)), .val (.int (Int32.ofNat nB)), .val (.int sA), .val (.int sB), .val (.ref xA), .val (.ref xB), .val (.ref b62), .val (.ref b85), .unset, .unset, .unset] [(.int sB), (.int sA)])) t → Steps p.tables e below (s₁.setTop (entryFrame m #[(.long vs), (.long vt_), (.int vlens), (.int vssid), (.int vpick)] maxLocals)) t := by
          intro t kt
          refine pre156 t ?_
          show Steps p.tables e below (T102.setTop (mkF m 293 #[.val (.long vs), .second, .val (.long vt_), .second, .val (.int vlens), .val (.int vssid), .val (.int vpick), .val (.int xa0), .val (.int xa1), .val (.int xa2), .val (.int xa3), .val (.int xa4), .val (.int xa5), .val (.int xb0), .val (.int xb1), .val (.int xb2), .val (.int xb3), .val (.int xb4), .val (.int xb5), .val (.int (4 : Int32)), .val (.int (Int32.ofNat nB)), .val (.int sA), .val (.int sB), .val (.ref xA), .val (.ref xB), .val (.ref b62), .val (.ref b85), .unset, .unset, .unset] [(.int (Int32.ofNat nB)), (.int (4 : Int32))])) _
          refine XS.icmpNo X102.here hx rfl (hb hby at_293) rfl (teq (hc157 : (4 : Int32) = (Int32.ofNat nB))).2 ?_
          show Steps p.tables e below (T102.setTop (mkF m 296 #[.val (.long vs), .second, .val (.long vt_), .second, .val (.int vlens), .val (.int vssid), .val (.int vpick), .val (.int xa0), .val (.int xa1), .val (.int xa2), .val (.int xa3), .val (.int xa4), .val (.int xa5), .val (.int xb0), .val (.int xb1), .val (.int xb2), .val (.int xb3), .val (.int xb4), .val (.int xb5), .val (.int (4 : Int32)), .val (.int (Int32.ofNat nB)), .val (.int sA), .val (.int sB), .val (.ref xA), .val (.ref xB), .val (.ref b62), .val (.ref b85), .unset, .unset, .unset] [])) _
          refine XS.iload X102.here hx rfl (hb hby at_296) rfl ?_
          show Steps p.tables e below (T102.setTop (mkF m 298 #[.val (.long vs), .second, .val (.long vt_), .second, .val (.int vlens), .val (.int vssid), .val (.int vpick), .val (.int xa0), .val (.int xa1), .val (.int xa2), .val (.int xa3), .val (.int xa4), .val (.int xa5), .val (.int xb0), .val (.int xb1), .val (.int xb2), .val (.int xb3), .val (.int xb4), .val (.int xb5), .val (.int (4 : Int32)), .val (.int (Int32.ofNat nB)), .val (.int sA), .val (.int sB), .val (.ref xA), .val (.ref xB), .val (.ref b62), .val (.ref b85), .unset, .unset, .unset] [(.int sA)])) _
          refine XS.iload X102.here hx rfl (hb hby at_298) rfl ?_
          exact kt
        by_cases hc159 : sA = sB
        ·
          have pre160 : ∀ t, Steps p.tables e below (T102.setTop (mkF m 307 #[.val (.long vs), .second, .val (.long vt_), .second, .val (.int vlens), .val (.int vssid), .val (.int vpick), .val (.int xa0), .val (.int xa1), .val (.int xa2), .val (.int xa3), .val (.int xa4), .val (.int xa5), .val (.int xb0), .val (.int xb1), .val (.int xb2), .val (.int xb3), .val (.int xb4), .val (.int xb5), .val (.int (4 : Int32)), .val (.int (Int32.ofNat nB)), .val (.int sA), .val (.int sB), .val (.ref xA), .val (.ref xB), .val (.ref b62), .val (.ref b85), .unset, .unset, .unset] [(.int xb0), (.int xa0)])) t → Steps p.tables e below (s₁.setTop (entryFrame m #[(.long vs), (.long vt_), (.int vlens), (.int vssid), (.int vpick)] maxLocals)) t := by
            intro t kt
            refine pre158 t ?_
            show Steps p.tables e below (T102.setTop (mkF m 300 #[.val (.long vs), .second, .val (.long vt_), .second, .val (.int vlens), .val (.int vssid), .val (.int vpick), .val (.int xa0), .val (.int xa1), .val (.int xa2), .val (.int xa3), .val (.int xa4), .val (.int xa5), .val (.int xb0), .val (.int xb1), .val (.int xb2), .val (.int xb3), .val (.int xb4), .val (.int xb5), .val (.int (4 : Int32)), .val (.int (Int32.ofNat nB)), .val (.int sA), .val (.int sB), .val (.ref xA), .val (.ref xB), .val (.ref b62), .val (.ref b85), .unset, .unset, .unset] [(.int sB), (.int sA)])) _
            refine XS.icmpNo X102.here hx rfl (hb hby at_300) rfl (teq (hc159 : sA = sB)).2 ?_
            show Steps p.tables e below (T102.setTop (mkF m 303 #[.val (.long vs), .second, .val (.long vt_), .second, .val (.int vlens), .val (.int vssid), .val (.int vpick), .val (.int xa0), .val (.int xa1), .val (.int xa2), .val (.int xa3), .val (.int xa4), .val (.int xa5), .val (.int xb0), .val (.int xb1), .val (.int xb2), .val (.int xb3), .val (.int xb4), .val (.int xb5), .val (.int (4 : Int32)), .val (.int (Int32.ofNat nB)), .val (.int sA), .val (.int sB), .val (.ref xA), .val (.ref xB), .val (.ref b62), .val (.ref b85), .unset, .unset, .unset] [])) _
            refine XS.iload X102.here hx rfl (hb hby at_303) rfl ?_
            show Steps p.tables e below (T102.setTop (mkF m 305 #[.val (.long vs), .second, .val (.long vt_), .second, .val (.int vlens), .val (.int vssid), .val (.int vpick), .val (.int xa0), .val (.int xa1), .val (.int xa2), .val (.int xa3), .val (.int xa4), .val (.int xa5), .val (.int xb0), .val (.int xb1), .val (.int xb2), .val (.int xb3), .val (.int xb4), .val (.int xb5), .val (.int (4 : Int32)), .val (.int (Int32.ofNat nB)), .val (.int sA), .val (.int sB), .val (.ref xA), .val (.ref xB), .val (.ref b62), .val (.ref b85), .unset, .unset, .unset] [(.int xa0)])) _
            refine XS.iload X102.here hx rfl (hb hby at_305) rfl ?_
            exact kt
          by_cases hc161 : xa0 = xb0
          ·
            have pre162 : ∀ t, Steps p.tables e below (T102.setTop (mkF m 320 #[.val (.long vs), .second, .val (.long vt_), .second, .val (.int vlens), .val (.int vssid), .val (.int vpick), .val (.int xa0), .val (.int xa1), .val (.int xa2), .val (.int xa3), .val (.int xa4), .val (.int xa5), .val (.int xb0), .val (.int xb1), .val (.int xb2), .val (.int xb3), .val (.int xb4), .val (.int xb5), .val (.int (4 : Int32)), .val (.int (Int32.ofNat nB)), .val (.int sA), .val (.int sB), .val (.ref xA), .val (.ref xB), .val (.ref b62), .val (.ref b85), .unset, .unset, .unset] [(.int xb1), (.int xa1)])) t → Steps p.tables e below (s₁.setTop (entryFrame m #[(.long vs), (.long vt_), (.int vlens), (.int vssid), (.int vpick)] maxLocals)) t := by
              intro t kt
              refine pre160 t ?_
              show Steps p.tables e below (T102.setTop (mkF m 307 #[.val (.long vs), .second, .val (.long vt_), .second, .val (.int vlens), .val (.int vssid), .val (.int vpick), .val (.int xa0), .val (.int xa1), .val (.int xa2), .val (.int xa3), .val (.int xa4), .val (.int xa5), .val (.int xb0), .val (.int xb1), .val (.int xb2), .val (.int xb3), .val (.int xb4), .val (.int xb5), .val (.int (4 : Int32)), .val (.int (Int32.ofNat nB)), .val (.int sA), .val (.int sB), .val (.ref xA), .val (.ref xB), .val (.ref b62), .val (.ref b85), .unset, .unset, .unset] [(.int xb0), (.int xa0)])) _
              refine XS.icmpNo X102.here hx rfl (hb hby at_307) rfl (teq (hc161 : xa0 = xb0)).2 ?_
              show Steps p.tables e below (T102.setTop (mkF m 310 #[.val (.long vs), .second, .val (.long vt_), .second, .val (.int vlens), .val (.int vssid), .val (.int vpick), .val (.int xa0), .val (.int xa1), .val (.int xa2), .val (.int xa3), .val (.int xa4), .val (.int xa5), .val (.int xb0), .val (.int xb1), .val (.int xb2), .val (.int xb3), .val (.int xb4), .val (.int xb5), .val (.int (4 : Int32)), .val (.int (Int32.ofNat nB)), .val (.int sA), .val (.int sB), .val (.ref xA), .val (.ref xB), .val (.ref b62), .val (.ref b85), .unset, .unset, .unset] [])) _
              refine XS.iload X102.here hx rfl (hb hby at_310) rfl ?_
              show Steps p.tables e below (T102.setTop (mkF m 312 #[.val (.long vs), .second, .val (.long vt_), .second, .val (.int vlens), .val (.int vssid), .val (.int vpick), .val (.int xa0), .val (.int xa1), .val (.int xa2), .val (.int xa3), .val (.int xa4), .val (.int xa5), .val (.int xb0), .val (.int xb1), .val (.int xb2), .val (.int xb3), .val (.int xb4), .val (.int xb5), .val (.int (4 : Int32)), .val (.int (Int32.ofNat nB)), .val (.int sA), .val (.int sB), .val (.ref xA), .val (.ref xB), .val (.ref b62), .val (.ref b85), .unset, .unset, .unset] [(.int (4 : Int32))])) _
              refine XS.iconst X102.here hx rfl (hb hby at_312) ?_
              show Steps p.tables e below (T102.setTop (mkF m 313 #[.val (.long vs), .second, .val (.long vt_), .second, .val (.int vlens), .val (.int vssid), .val (.int vpick), .val (.int xa0), .val (.int xa1), .val (.int xa2), .val (.int xa3), .val (.int xa4), .val (.int xa5), .val (.int xb0), .val (.int xb1), .val (.int xb2), .val (.int xb3), .val (.int xb4), .val (.int xb5), .val (.int (4 : Int32)), .val (.int (Int32.ofNat nB)), .val (.int sA), .val (.int sB), .val (.ref xA), .val (.ref xB), .val (.ref b62), .val (.ref b85), .unset, .unset, .unset] [(.int (2 : Int32)), (.int (4 : Int32))])) _
              refine XS.icmpNo X102.here hx rfl (hb hby at_313) rfl (flt ((by decide) : ¬ ((4 : Int32) < (2 : Int32)))).1 ?_
              show Steps p.tables e below (T102.setTop (mkF m 316 #[.val (.long vs), .second, .val (.long vt_), .second, .val (.int vlens), .val (.int vssid), .val (.int vpick), .val (.int xa0), .val (.int xa1), .val (.int xa2), .val (.int xa3), .val (.int xa4), .val (.int xa5), .val (.int xb0), .val (.int xb1), .val (.int xb2), .val (.int xb3), .val (.int xb4), .val (.int xb5), .val (.int (4 : Int32)), .val (.int (Int32.ofNat nB)), .val (.int sA), .val (.int sB), .val (.ref xA), .val (.ref xB), .val (.ref b62), .val (.ref b85), .unset, .unset, .unset] [])) _
              refine XS.iload X102.here hx rfl (hb hby at_316) rfl ?_
              show Steps p.tables e below (T102.setTop (mkF m 318 #[.val (.long vs), .second, .val (.long vt_), .second, .val (.int vlens), .val (.int vssid), .val (.int vpick), .val (.int xa0), .val (.int xa1), .val (.int xa2), .val (.int xa3), .val (.int xa4), .val (.int xa5), .val (.int xb0), .val (.int xb1), .val (.int xb2), .val (.int xb3), .val (.int xb4), .val (.int xb5), .val (.int (4 : Int32)), .val (.int (Int32.ofNat nB)), .val (.int sA), .val (.int sB), .val (.ref xA), .val (.ref xB), .val (.ref b62), .val (.ref b85), .unset, .unset, .unset] [(.int xa1)])) _
              refine XS.iload X102.here hx rfl (hb hby at_318) rfl ?_
              exact kt
            by_cases hc163 : xa1 = xb1
            ·
              have pre164 : ∀ t, Steps p.tables e below (T102.setTop (mkF m 333 #[.val (.long vs), .second, .val (.long vt_), .second, .val (.int vlens), .val (.int vssid), .val (.int vpick), .val (.int xa0), .val (.int xa1), .val (.int xa2), .val (.int xa3), .val (.int xa4), .val (.int xa5), .val (.int xb0), .val (.int xb1), .val (.int xb2), .val (.int xb3), .val (.int xb4), .val (.int xb5), .val (.int (4 : Int32)), .val (.int (Int32.ofNat nB)), .val (.int sA), .val (.int sB), .val (.ref xA), .val (.ref xB), .val (.ref b62), .val (.ref b85), .unset, .unset, .unset] [(.int xb2), (.int xa2)])) t → Steps p.tables e below (s₁.setTop (entryFrame m #[(.long vs), (.long vt_), (.int vlens), (.int vssid), (.int vpick)] maxLocals)) t := by
                intro t kt
                refine pre162 t ?_
                show Steps p.tables e below (T102.setTop (mkF m 320 #[.val (.long vs), .second, .val (.long vt_), .second, .val (.int vlens), .val (.int vssid), .val (.int vpick), .val (.int xa0), .val (.int xa1), .val (.int xa2), .val (.int xa3), .val (.int xa4), .val (.int xa5), .val (.int xb0), .val (.int xb1), .val (.int xb2), .val (.int xb3), .val (.int xb4), .val (.int xb5), .val (.int (4 : Int32)), .val (.int (Int32.ofNat nB)), .val (.int sA), .val (.int sB), .val (.ref xA), .val (.ref xB), .val (.ref b62), .val (.ref b85), .unset, .unset, .unset] [(.int xb1), (.int xa1)])) _
                refine XS.icmpNo X102.here hx rfl (hb hby at_320) rfl (teq (hc163 : xa1 = xb1)).2 ?_
                show Steps p.tables e below (T102.setTop (mkF m 323 #[.val (.long vs), .second, .val (.long vt_), .second, .val (.int vlens), .val (.int vssid), .val (.int vpick), .val (.int xa0), .val (.int xa1), .val (.int xa2), .val (.int xa3), .val (.int xa4), .val (.int xa5), .val (.int xb0), .val (.int xb1), .val (.int xb2), .val (.int xb3), .val (.int xb4), .val (.int xb5), .val (.int (4 : Int32)), .val (.int (Int32.ofNat nB)), .val (.int sA), .val (.int sB), .val (.ref xA), .val (.ref xB), .val (.ref b62), .val (.ref b85), .unset, .unset, .unset] [])) _
                refine XS.iload X102.here hx rfl (hb hby at_323) rfl ?_
                show Steps p.tables e below (T102.setTop (mkF m 325 #[.val (.long vs), .second, .val (.long vt_), .second, .val (.int vlens), .val (.int vssid), .val (.int vpick), .val (.int xa0), .val (.int xa1), .val (.int xa2), .val (.int xa3), .val (.int xa4), .val (.int xa5), .val (.int xb0), .val (.int xb1), .val (.int xb2), .val (.int xb3), .val (.int xb4), .val (.int xb5), .val (.int (4 : Int32)), .val (.int (Int32.ofNat nB)), .val (.int sA), .val (.int sB), .val (.ref xA), .val (.ref xB), .val (.ref b62), .val (.ref b85), .unset, .unset, .unset] [(.int (4 : Int32))])) _
                refine XS.iconst X102.here hx rfl (hb hby at_325) ?_
                show Steps p.tables e below (T102.setTop (mkF m 326 #[.val (.long vs), .second, .val (.long vt_), .second, .val (.int vlens), .val (.int vssid), .val (.int vpick), .val (.int xa0), .val (.int xa1), .val (.int xa2), .val (.int xa3), .val (.int xa4), .val (.int xa5), .val (.int xb0), .val (.int xb1), .val (.int xb2), .val (.int xb3), .val (.int xb4), .val (.int xb5), .val (.int (4 : Int32)), .val (.int (Int32.ofNat nB)), .val (.int sA), .val (.int sB), .val (.ref xA), .val (.ref xB), .val (.ref b62), .val (.ref b85), .unset, .unset, .unset] [(.int (3 : Int32)), (.int (4 : Int32))])) _
                refine XS.icmpNo X102.here hx rfl (hb hby at_326) rfl (flt ((by decide) : ¬ ((4 : Int32) < (3 : Int32)))).1 ?_
                show Steps p.tables e below (T102.setTop (mkF m 329 #[.val (.long vs), .second, .val (.long vt_), .second, .val (.int vlens), .val (.int vssid), .val (.int vpick), .val (.int xa0), .val (.int xa1), .val (.int xa2), .val (.int xa3), .val (.int xa4), .val (.int xa5), .val (.int xb0), .val (.int xb1), .val (.int xb2), .val (.int xb3), .val (.int xb4), .val (.int xb5), .val (.int (4 : Int32)), .val (.int (Int32.ofNat nB)), .val (.int sA), .val (.int sB), .val (.ref xA), .val (.ref xB), .val (.ref b62), .val (.ref b85), .unset, .unset, .unset] [])) _
                refine XS.iload X102.here hx rfl (hb hby at_329) rfl ?_
                show Steps p.tables e below (T102.setTop (mkF m 331 #[.val (.long vs), .second, .val (.long vt_), .second, .val (.int vlens), .val (.int vssid), .val (.int vpick), .val (.int xa0), .val (.int xa1), .val (.int xa2), .val (.int xa3), .val (.int xa4), .val (.int xa5), .val (.int xb0), .val (.int xb1), .val (.int xb2), .val (.int xb3), .val (.int xb4), .val (.int xb5), .val (.int (4 : Int32)), .val (.int (Int32.ofNat nB)), .val (.int sA), .val (.int sB), .val (.ref xA), .val (.ref xB), .val (.ref b62), .val (.ref b85), .unset, .unset, .unset] [(.int xa2)])) _
                refine XS.iload X102.here hx rfl (hb hby at_331) rfl ?_
                exact kt
              by_cases hc165 : xa2 = xb2
              ·
                have pre166 : ∀ t, Steps p.tables e below (T102.setTop (mkF m 346 #[.val (.long vs), .second, .val (.long vt_), .second, .val (.int vlens), .val (.int vssid), .val (.int vpick), .val (.int xa0), .val (.int xa1), .val (.int xa2), .val (.int xa3), .val (.int xa4), .val (.int xa5), .val (.int xb0), .val (.int xb1), .val (.int xb2), .val (.int xb3), .val (.int xb4), .val (.int xb5), .val (.int (4 : Int32)), .val (.int (Int32.ofNat nB)), .val (.int sA), .val (.int sB), .val (.ref xA), .val (.ref xB), .val (.ref b62), .val (.ref b85), .unset, .unset, .unset] [(.int xb3), (.int xa3)])) t → Steps p.tables e below (s₁.setTop (entryFrame m #[(.long vs), (.long vt_), (.int vlens), (.int vssid), (.int vpick)] maxLocals)) t := by
                  intro t kt
                  refine pre164 t ?_
                  show Steps p.tables e below (T102.setTop (mkF m 333 #[.val (.long vs), .second, .val (.long vt_), .second, .val (.int vlens), .val (.int vssid), .val (.int vpick), .val (.int xa0), .val (.int xa1), .val (.int xa2), .val (.int xa3), .val (.int xa4), .val (.int xa5), .val (.int xb0), .val (.int xb1), .val (.int xb2), .val (.int xb3), .val (.int xb4), .val (.int xb5), .val (.int (4 : Int32)), .val (.int (Int32.ofNat nB)), .val (.int sA), .val (.int sB), .val (.ref xA), .val (.ref xB), .val (.ref b62), .val (.ref b85), .unset, .unset, .unset] [(.int xb2), (.int xa2)])) _
                  refine XS.icmpNo X102.here hx rfl (hb hby at_333) rfl (teq (hc165 : xa2 = xb2)).2 ?_
                  show Steps p.tables e below (T102.setTop (mkF m 336 #[.val (.long vs), .second, .val (.long vt_), .second, .val (.int vlens), .val (.int vssid), .val (.int vpick), .val (.int xa0), .val (.int xa1), .val (.int xa2), .val (.int xa3), .val (.int xa4), .val (.int xa5), .val (.int xb0), .val (.int xb1), .val (.int xb2), .val (.int xb3), .val (.int xb4), .val (.int xb5), .val (.int (4 : Int32)), .val (.int (Int32.ofNat nB)), .val (.int sA), .val (.int sB), .val (.ref xA), .val (.ref xB), .val (.ref b62), .val (.ref b85), .unset, .unset, .unset] [])) _
                  refine XS.iload X102.here hx rfl (hb hby at_336) rfl ?_
                  show Steps p.tables e below (T102.setTop (mkF m 338 #[.val (.long vs), .second, .val (.long vt_), .second, .val (.int vlens), .val (.int vssid), .val (.int vpick), .val (.int xa0), .val (.int xa1), .val (.int xa2), .val (.int xa3), .val (.int xa4), .val (.int xa5), .val (.int xb0), .val (.int xb1), .val (.int xb2), .val (.int xb3), .val (.int xb4), .val (.int xb5), .val (.int (4 : Int32)), .val (.int (Int32.ofNat nB)), .val (.int sA), .val (.int sB), .val (.ref xA), .val (.ref xB), .val (.ref b62), .val (.ref b85), .unset, .unset, .unset] [(.int (4 : Int32))])) _
                  refine XS.iconst X102.here hx rfl (hb hby at_338) ?_
                  show Steps p.tables e below (T102.setTop (mkF m 339 #[.val (.long vs), .second, .val (.long vt_), .second, .val (.int vlens), .val (.int vssid), .val (.int vpick), .val (.int xa0), .val (.int xa1), .val (.int xa2), .val (.int xa3), .val (.int xa4), .val (.int xa5), .val (.int xb0), .val (.int xb1), .val (.int xb2), .val (.int xb3), .val (.int xb4), .val (.int xb5), .val (.int (4 : Int32)), .val (.int (Int32.ofNat nB)), .val (.int sA), .val (.int sB), .val (.ref xA), .val (.ref xB), .val (.ref b62), .val (.ref b85), .unset, .unset, .unset] [(.int (4 : Int32)), (.int (4 : Int32))])) _
                  refine XS.icmpNo X102.here hx rfl (hb hby at_339) rfl (flt ((by decide) : ¬ ((4 : Int32) < (4 : Int32)))).1 ?_
                  show Steps p.tables e below (T102.setTop (mkF m 342 #[.val (.long vs), .second, .val (.long vt_), .second, .val (.int vlens), .val (.int vssid), .val (.int vpick), .val (.int xa0), .val (.int xa1), .val (.int xa2), .val (.int xa3), .val (.int xa4), .val (.int xa5), .val (.int xb0), .val (.int xb1), .val (.int xb2), .val (.int xb3), .val (.int xb4), .val (.int xb5), .val (.int (4 : Int32)), .val (.int (Int32.ofNat nB)), .val (.int sA), .val (.int sB), .val (.ref xA), .val (.ref xB), .val (.ref b62), .val (.ref b85), .unset, .unset, .unset] [])) _
                  refine XS.iload X102.here hx rfl (hb hby at_342) rfl ?_
                  show Steps p.tables e below (T102.setTop (mkF m 344 #[.val (.long vs), .second, .val (.long vt_), .second, .val (.int vlens), .val (.int vssid), .val (.int vpick), .val (.int xa0), .val (.int xa1), .val (.int xa2), .val (.int xa3), .val (.int xa4), .val (.int xa5), .val (.int xb0), .val (.int xb1), .val (.int xb2), .val (.int xb3), .val (.int xb4), .val (.int xb5), .val (.int (4 : Int32)), .val (.int (Int32.ofNat nB)), .val (.int sA), .val (.int sB), .val (.ref xA), .val (.ref xB), .val (.ref b62), .val (.ref b85), .unset, .unset, .unset] [(.int xa3)])) _
                  refine XS.iload X102.here hx rfl (hb hby at_344) rfl ?_
                  exact kt
                by_cases hc167 : xa3 = xb3
                ·
                  have pre168 : ∀ t, Steps p.tables e below (T102.setTop (mkF m 381 #[.val (.long vs), .second, .val (.long vt_), .second, .val (.int vlens), .val (.int vssid), .val (.int vpick), .val (.int xa0), .val (.int xa1), .val (.int xa2), .val (.int xa3), .val (.int xa4), .val (.int xa5), .val (.int xb0), .val (.int xb1), .val (.int xb2), .val (.int xb3), .val (.int xb4), .val (.int xb5), .val (.int (4 : Int32)), .val (.int (Int32.ofNat nB)), .val (.int sA), .val (.int sB), .val (.ref xA), .val (.ref xB), .val (.ref b62), .val (.ref b85), .unset, .unset, .unset] [(.int (1 : Int32))])) t → Steps p.tables e below (s₁.setTop (entryFrame m #[(.long vs), (.long vt_), (.int vlens), (.int vssid), (.int vpick)] maxLocals)) t := by
                    intro t kt
                    refine pre166 t ?_
                    show Steps p.tables e below (T102.setTop (mkF m 346 #[.val (.long vs), .second, .val (.long vt_), .second, .val (.int vlens), .val (.int vssid), .val (.int vpick), .val (.int xa0), .val (.int xa1), .val (.int xa2), .val (.int xa3), .val (.int xa4), .val (.int xa5), .val (.int xb0), .val (.int xb1), .val (.int xb2), .val (.int xb3), .val (.int xb4), .val (.int xb5), .val (.int (4 : Int32)), .val (.int (Int32.ofNat nB)), .val (.int sA), .val (.int sB), .val (.ref xA), .val (.ref xB), .val (.ref b62), .val (.ref b85), .unset, .unset, .unset] [(.int xb3), (.int xa3)])) _
                    refine XS.icmpNo X102.here hx rfl (hb hby at_346) rfl (teq (hc167 : xa3 = xb3)).2 ?_
                    show Steps p.tables e below (T102.setTop (mkF m 349 #[.val (.long vs), .second, .val (.long vt_), .second, .val (.int vlens), .val (.int vssid), .val (.int vpick), .val (.int xa0), .val (.int xa1), .val (.int xa2), .val (.int xa3), .val (.int xa4), .val (.int xa5), .val (.int xb0), .val (.int xb1), .val (.int xb2), .val (.int xb3), .val (.int xb4), .val (.int xb5), .val (.int (4 : Int32)), .val (.int (Int32.ofNat nB)), .val (.int sA), .val (.int sB), .val (.ref xA), .val (.ref xB), .val (.ref b62), .val (.ref b85), .unset, .unset, .unset] [])) _
                    refine XS.iload X102.here hx rfl (hb hby at_349) rfl ?_
                    show Steps p.tables e below (T102.setTop (mkF m 351 #[.val (.long vs), .second, .val (.long vt_), .second, .val (.int vlens), .val (.int vssid), .val (.int vpick), .val (.int xa0), .val (.int xa1), .val (.int xa2), .val (.int xa3), .val (.int xa4), .val (.int xa5), .val (.int xb0), .val (.int xb1), .val (.int xb2), .val (.int xb3), .val (.int xb4), .val (.int xb5), .val (.int (4 : Int32)), .val (.int (Int32.ofNat nB)), .val (.int sA), .val (.int sB), .val (.ref xA), .val (.ref xB), .val (.ref b62), .val (.ref b85), .unset, .unset, .unset] [(.int (4 : Int32))])) _
                    refine XS.iconst X102.here hx rfl (hb hby at_351) ?_
                    show Steps p.tables e below (T102.setTop (mkF m 352 #[.val (.long vs), .second, .val (.long vt_), .second, .val (.int vlens), .val (.int vssid), .val (.int vpick), .val (.int xa0), .val (.int xa1), .val (.int xa2), .val (.int xa3), .val (.int xa4), .val (.int xa5), .val (.int xb0), .val (.int xb1), .val (.int xb2), .val (.int xb3), .val (.int xb4), .val (.int xb5), .val (.int (4 : Int32)), .val (.int (Int32.ofNat nB)), .val (.int sA), .val (.int sB), .val (.ref xA), .val (.ref xB), .val (.ref b62), .val (.ref b85), .unset, .unset, .unset] [(.int (5 : Int32)), (.int (4 : Int32))])) _
                    refine XS.icmpYes X102.here hx rfl (pc0 := 352) (pc' := 362) rfl (hb hby at_352) rfl (tlt ((by decide) : (4 : Int32) < (5 : Int32))).1 (by decide) (by decide) ?_
                    show Steps p.tables e below (T102.setTop (mkF m 362 #[.val (.long vs), .second, .val (.long vt_), .second, .val (.int vlens), .val (.int vssid), .val (.int vpick), .val (.int xa0), .val (.int xa1), .val (.int xa2), .val (.int xa3), .val (.int xa4), .val (.int xa5), .val (.int xb0), .val (.int xb1), .val (.int xb2), .val (.int xb3), .val (.int xb4), .val (.int xb5), .val (.int (4 : Int32)), .val (.int (Int32.ofNat nB)), .val (.int sA), .val (.int sB), .val (.ref xA), .val (.ref xB), .val (.ref b62), .val (.ref b85), .unset, .unset, .unset] [])) _
                    refine XS.iload X102.here hx rfl (hb hby at_362) rfl ?_
                    show Steps p.tables e below (T102.setTop (mkF m 364 #[.val (.long vs), .second, .val (.long vt_), .second, .val (.int vlens), .val (.int vssid), .val (.int vpick), .val (.int xa0), .val (.int xa1), .val (.int xa2), .val (.int xa3), .val (.int xa4), .val (.int xa5), .val (.int xb0), .val (.int xb1), .val (.int xb2), .val (.int xb3), .val (.int xb4), .val (.int xb5), .val (.int (4 : Int32)), .val (.int (Int32.ofNat nB)), .val (.int sA), .val (.int sB), .val (.ref xA), .val (.ref xB), .val (.ref b62), .val (.ref b85), .unset, .unset, .unset] [(.int (4 : Int32))])) _
                    refine XS.bipush X102.here hx rfl (hb hby at_364) ?_
                    show Steps p.tables e below (T102.setTop (mkF m 366 #[.val (.long vs), .second, .val (.long vt_), .second, .val (.int vlens), .val (.int vssid), .val (.int vpick), .val (.int xa0), .val (.int xa1), .val (.int xa2), .val (.int xa3), .val (.int xa4), .val (.int xa5), .val (.int xb0), .val (.int xb1), .val (.int xb2), .val (.int xb3), .val (.int xb4), .val (.int xb5), .val (.int (4 : Int32)), .val (.int (Int32.ofNat nB)), .val (.int sA), .val (.int sB), .val (.ref xA), .val (.ref xB), .val (.ref b62), .val (.ref b85), .unset, .unset, .unset] [(.int (6 : Int32)), (.int (4 : Int32))])) _
                    refine XS.icmpYes X102.here hx rfl (pc0 := 366) (pc' := 376) rfl (hb hby at_366) rfl (tlt ((by decide) : (4 : Int32) < (6 : Int32))).1 (by decide) (by decide) ?_
                    show Steps p.tables e below (T102.setTop (mkF m 376 #[.val (.long vs), .second, .val (.long vt_), .second, .val (.int vlens), .val (.int vssid), .val (.int vpick), .val (.int xa0), .val (.int xa1), .val (.int xa2), .val (.int xa3), .val (.int xa4), .val (.int xa5), .val (.int xb0), .val (.int xb1), .val (.int xb2), .val (.int xb3), .val (.int xb4), .val (.int xb5), .val (.int (4 : Int32)), .val (.int (Int32.ofNat nB)), .val (.int sA), .val (.int sB), .val (.ref xA), .val (.ref xB), .val (.ref b62), .val (.ref b85), .unset, .unset, .unset] [])) _
                    refine XS.iconst X102.here hx rfl (hb hby at_376) ?_
                    show Steps p.tables e below (T102.setTop (mkF m 377 #[.val (.long vs), .second, .val (.long vt_), .second, .val (.int vlens), .val (.int vssid), .val (.int vpick), .val (.int xa0), .val (.int xa1), .val (.int xa2), .val (.int xa3), .val (.int xa4), .val (.int xa5), .val (.int xb0), .val (.int xb1), .val (.int xb2), .val (.int xb3), .val (.int xb4), .val (.int xb5), .val (.int (4 : Int32)), .val (.int (Int32.ofNat nB)), .val (.int sA), .val (.int sB), .val (.ref xA), .val (.ref xB), .val (.ref b62), .val (.ref b85), .unset, .unset, .unset] [(.int (1 : Int32))])) _
                    refine XS.goto X102.here hx rfl (pc0 := 377) (pc' := 381) rfl (hb hby at_377) (by decide) (by decide) ?_
                    exact kt
                  exact ⟨T102, _, X102, rfl, N102, fun t kt => pre168 t (by have q : (own_same (Int32.ofNat 4) (Int32.ofNat nB) sA sB xa0 xa1 xa2 xa3 xa4 xa5 xb0 xb1 xb2 xb3 xb4 xb5) = (1 : Int32) := by { rw [own_same]; exact if_pos ⟨hc157, hc159, hc161, Or.inr hc163, Or.inr hc165, Or.inr hc167, Or.inl (by decide), Or.inl (by decide)⟩ }; rw [q] at kt; exact kt)⟩
                ·
                  have pre169 : ∀ t, Steps p.tables e below (T102.setTop (mkF m 381 #[.val (.long vs), .second, .val (.long vt_), .second, .val (.int vlens), .val (.int vssid), .val (.int vpick), .val (.int xa0), .val (.int xa1), .val (.int xa2), .val (.int xa3), .val (.int xa4), .val (.int xa5), .val (.int xb0), .val (.int xb1), .val (.int xb2), .val (.int xb3), .val (.int xb4), .val (.int xb5), .val (.int (4 : Int32)), .val (.int (Int32.ofNat nB)), .val (.int sA), .val (.int sB), .val (.ref xA), .val (.ref xB), .val (.ref b62), .val (.ref b85), .unset, .unset, .unset] [(.int (0 : Int32))])) t → Steps p.tables e below (s₁.setTop (entryFrame m #[(.long vs), (.long vt_), (.int vlens), (.int vssid), (.int vpick)] maxLocals)) t := by
                    intro t kt
                    refine pre166 t ?_
                    show Steps p.tables e below (T102.setTop (mkF m 346 #[.val (.long vs), .second, .val (.long vt_), .second, .val (.int vlens), .val (.int vssid), .val (.int vpick), .val (.int xa0), .val (.int xa1), .val (.int xa2), .val (.int xa3), .val (.int xa4), .val (.int xa5), .val (.int xb0), .val (.int xb1), .val (.int xb2), .val (.int xb3), .val (.int xb4), .val (.int xb5), .val (.int (4 : Int32)), .val (.int (Int32.ofNat nB)), .val (.int sA), .val (.int sB), .val (.ref xA), .val (.ref xB), .val (.ref b62), .val (.ref b85), .unset, .unset, .unset] [(.int xb3), (.int xa3)])) _
                    refine XS.icmpYes X102.here hx rfl (pc0 := 346) (pc' := 380) rfl (hb hby at_346) rfl (feq (hc167 : ¬ (xa3 = xb3))).2 (by decide) (by decide) ?_
                    show Steps p.tables e below (T102.setTop (mkF m 380 #[.val (.long vs), .second, .val (.long vt_), .second, .val (.int vlens), .val (.int vssid), .val (.int vpick), .val (.int xa0), .val (.int xa1), .val (.int xa2), .val (.int xa3), .val (.int xa4), .val (.int xa5), .val (.int xb0), .val (.int xb1), .val (.int xb2), .val (.int xb3), .val (.int xb4), .val (.int xb5), .val (.int (4 : Int32)), .val (.int (Int32.ofNat nB)), .val (.int sA), .val (.int sB), .val (.ref xA), .val (.ref xB), .val (.ref b62), .val (.ref b85), .unset, .unset, .unset] [])) _
                    refine XS.iconst X102.here hx rfl (hb hby at_380) ?_
                    exact kt
                  exact ⟨T102, _, X102, rfl, N102, fun t kt => pre169 t (by have q : (own_same (Int32.ofNat 4) (Int32.ofNat nB) sA sB xa0 xa1 xa2 xa3 xa4 xa5 xb0 xb1 xb2 xb3 xb4 xb5) = (0 : Int32) := by { rw [own_same]; exact if_neg (fun q => hc167 (q.2.2.2.2.2.1.resolve_left (by decide))) }; rw [q] at kt; exact kt)⟩
              ·
                have pre170 : ∀ t, Steps p.tables e below (T102.setTop (mkF m 381 #[.val (.long vs), .second, .val (.long vt_), .second, .val (.int vlens), .val (.int vssid), .val (.int vpick), .val (.int xa0), .val (.int xa1), .val (.int xa2), .val (.int xa3), .val (.int xa4), .val (.int xa5), .val (.int xb0), .val (.int xb1), .val (.int xb2), .val (.int xb3), .val (.int xb4), .val (.int xb5), .val (.int (4 : Int32)), .val (.int (Int32.ofNat nB)), .val (.int sA), .val (.int sB), .val (.ref xA), .val (.ref xB), .val (.ref b62), .val (.ref b85), .unset, .unset, .unset] [(.int (0 : Int32))])) t → Steps p.tables e below (s₁.setTop (entryFrame m #[(.long vs), (.long vt_), (.int vlens), (.int vssid), (.int vpick)] maxLocals)) t := by
                  intro t kt
                  refine pre164 t ?_
                  show Steps p.tables e below (T102.setTop (mkF m 333 #[.val (.long vs), .second, .val (.long vt_), .second, .val (.int vlens), .val (.int vssid), .val (.int vpick), .val (.int xa0), .val (.int xa1), .val (.int xa2), .val (.int xa3), .val (.int xa4), .val (.int xa5), .val (.int xb0), .val (.int xb1), .val (.int xb2), .val (.int xb3), .val (.int xb4), .val (.int xb5), .val (.int (4 : Int32)), .val (.int (Int32.ofNat nB)), .val (.int sA), .val (.int sB), .val (.ref xA), .val (.ref xB), .val (.ref b62), .val (.ref b85), .unset, .unset, .unset] [(.int xb2), (.int xa2)])) _
                  refine XS.icmpYes X102.here hx rfl (pc0 := 333) (pc' := 380) rfl (hb hby at_333) rfl (feq (hc165 : ¬ (xa2 = xb2))).2 (by decide) (by decide) ?_
                  show Steps p.tables e below (T102.setTop (mkF m 380 #[.val (.long vs), .second, .val (.long vt_), .second, .val (.int vlens), .val (.int vssid), .val (.int vpick), .val (.int xa0), .val (.int xa1), .val (.int xa2), .val (.int xa3), .val (.int xa4), .val (.int xa5), .val (.int xb0), .val (.int xb1), .val (.int xb2), .val (.int xb3), .val (.int xb4), .val (.int xb5), .val (.int (4 : Int32)), .val (.int (Int32.ofNat nB)), .val (.int sA), .val (.int sB), .val (.ref xA), .val (.ref xB), .val (.ref b62), .val (.ref b85), .unset, .unset, .unset] [])) _
                  refine XS.iconst X102.here hx rfl (hb hby at_380) ?_
                  exact kt
                exact ⟨T102, _, X102, rfl, N102, fun t kt => pre170 t (by have q : (own_same (Int32.ofNat 4) (Int32.ofNat nB) sA sB xa0 xa1 xa2 xa3 xa4 xa5 xb0 xb1 xb2 xb3 xb4 xb5) = (0 : Int32) := by { rw [own_same]; exact if_neg (fun q => hc165 (q.2.2.2.2.1.resolve_left (by decide))) }; rw [q] at kt; exact kt)⟩
            ·
              have pre171 : ∀ t, Steps p.tables e below (T102.setTop (mkF m 381 #[.val (.long vs), .second, .val (.long vt_), .second, .val (.int vlens), .val (.int vssid), .val (.int vpick), .val (.int xa0), .val (.int xa1), .val (.int xa2), .val (.int xa3), .val (.int xa4), .val (.int xa5), .val (.int xb0), .val (.int xb1), .val (.int xb2), .val (.int xb3), .val (.int xb4), .val (.int xb5), .val (.int (4 : Int32)), .val (.int (Int32.ofNat nB)), .val (.int sA), .val (.int sB), .val (.ref xA), .val (.ref xB), .val (.ref b62), .val (.ref b85), .unset, .unset, .unset] [(.int (0 : Int32))])) t → Steps p.tables e below (s₁.setTop (entryFrame m #[(.long vs), (.long vt_), (.int vlens), (.int vssid), (.int vpick)] maxLocals)) t := by
                intro t kt
                refine pre162 t ?_
                show Steps p.tables e below (T102.setTop (mkF m 320 #[.val (.long vs), .second, .val (.long vt_), .second, .val (.int vlens), .val (.int vssid), .val (.int vpick), .val (.int xa0), .val (.int xa1), .val (.int xa2), .val (.int xa3), .val (.int xa4), .val (.int xa5), .val (.int xb0), .val (.int xb1), .val (.int xb2), .val (.int xb3), .val (.int xb4), .val (.int xb5), .val (.int (4 : Int32)), .val (.int (Int32.ofNat nB)), .val (.int sA), .val (.int sB), .val (.ref xA), .val (.ref xB), .val (.ref b62), .val (.ref b85), .unset, .unset, .unset] [(.int xb1), (.int xa1)])) _
                refine XS.icmpYes X102.here hx rfl (pc0 := 320) (pc' := 380) rfl (hb hby at_320) rfl (feq (hc163 : ¬ (xa1 = xb1))).2 (by decide) (by decide) ?_
                show Steps p.tables e below (T102.setTop (mkF m 380 #[.val (.long vs), .second, .val (.long vt_), .second, .val (.int vlens), .val (.int vssid), .val (.int vpick), .val (.int xa0), .val (.int xa1), .val (.int xa2), .val (.int xa3), .val (.int xa4), .val (.int xa5), .val (.int xb0), .val (.int xb1), .val (.int xb2), .val (.int xb3), .val (.int xb4), .val (.int xb5), .val (.int (4 : Int32)), .val (.int (Int32.ofNat nB)), .val (.int sA), .val (.int sB), .val (.ref xA), .val (.ref xB), .val (.ref b62), .val (.ref b85), .unset, .unset, .unset] [])) _
                refine XS.iconst X102.here hx rfl (hb hby at_380) ?_
                exact kt
              exact ⟨T102, _, X102, rfl, N102, fun t kt => pre171 t (by have q : (own_same (Int32.ofNat 4) (Int32.ofNat nB) sA sB xa0 xa1 xa2 xa3 xa4 xa5 xb0 xb1 xb2 xb3 xb4 xb5) = (0 : Int32) := by { rw [own_same]; exact if_neg (fun q => hc163 (q.2.2.2.1.resolve_left (by decide))) }; rw [q] at kt; exact kt)⟩
          ·
            have pre172 : ∀ t, Steps p.tables e below (T102.setTop (mkF m 381 #[.val (.long vs), .second, .val (.long vt_), .second, .val (.int vlens), .val (.int vssid), .val (.int vpick), .val (.int xa0), .val (.int xa1), .val (.int xa2), .val (.int xa3), .val (.int xa4), .val (.int xa5), .val (.int xb0), .val (.int xb1), .val (.int xb2), .val (.int xb3), .val (.int xb4), .val (.int xb5), .val (.int (4 : Int32)), .val (.int (Int32.ofNat nB)), .val (.int sA), .val (.int sB), .val (.ref xA), .val (.ref xB), .val (.ref b62), .val (.ref b85), .unset, .unset, .unset] [(.int (0 : Int32))])) t → Steps p.tables e below (s₁.setTop (entryFrame m #[(.long vs), (.long vt_), (.int vlens), (.int vssid), (.int vpick)] maxLocals)) t := by
              intro t kt
              refine pre160 t ?_
              show Steps p.tables e below (T102.setTop (mkF m 307 #[.val (.long vs), .second, .val (.long vt_), .second, .val (.int vlens), .val (.int vssid), .val (.int vpick), .val (.int xa0), .val (.int xa1), .val (.int xa2), .val (.int xa3), .val (.int xa4), .val (.int xa5), .val (.int xb0), .val (.int xb1), .val (.int xb2), .val (.int xb3), .val (.int xb4), .val (.int xb5), .val (.int (4 : Int32)), .val (.int (Int32.ofNat nB)), .val (.int sA), .val (.int sB), .val (.ref xA), .val (.ref xB), .val (.ref b62), .val (.ref b85), .unset, .unset, .unset] [(.int xb0), (.int xa0)])) _
              refine XS.icmpYes X102.here hx rfl (pc0 := 307) (pc' := 380) rfl (hb hby at_307) rfl (feq (hc161 : ¬ (xa0 = xb0))).2 (by decide) (by decide) ?_
              show Steps p.tables e below (T102.setTop (mkF m 380 #[.val (.long vs), .second, .val (.long vt_), .second, .val (.int vlens), .val (.int vssid), .val (.int vpick), .val (.int xa0), .val (.int xa1), .val (.int xa2), .val (.int xa3), .val (.int xa4), .val (.int xa5), .val (.int xb0), .val (.int xb1), .val (.int xb2), .val (.int xb3), .val (.int xb4), .val (.int xb5), .val (.int (4 : Int32)), .val (.int (Int32.ofNat nB)), .val (.int sA), .val (.int sB), .val (.ref xA), .val (.ref xB), .val (.ref b62), .val (.ref b85), .unset, .unset, .unset] [])) _
              refine XS.iconst X102.here hx rfl (hb hby at_380) ?_
              exact kt
            exact ⟨T102, _, X102, rfl, N102, fun t kt => pre172 t (by have q : (own_same (Int32.ofNat 4) (Int32.ofNat nB) sA sB xa0 xa1 xa2 xa3 xa4 xa5 xb0 xb1 xb2 xb3 xb4 xb5) = (0 : Int32) := by { rw [own_same]; exact if_neg (fun q => hc161 q.2.2.1) }; rw [q] at kt; exact kt)⟩
        ·
          have pre173 : ∀ t, Steps p.tables e below (T102.setTop (mkF m 381 #[.val (.long vs), .second, .val (.long vt_), .second, .val (.int vlens), .val (.int vssid), .val (.int vpick), .val (.int xa0), .val (.int xa1), .val (.int xa2), .val (.int xa3), .val (.int xa4), .val (.int xa5), .val (.int xb0), .val (.int xb1), .val (.int xb2), .val (.int xb3), .val (.int xb4), .val (.int xb5), .val (.int (4 : Int32)), .val (.int (Int32.ofNat nB)), .val (.int sA), .val (.int sB), .val (.ref xA), .val (.ref xB), .val (.ref b62), .val (.ref b85), .unset, .unset, .unset] [(.int (0 : Int32))])) t → Steps p.tables e below (s₁.setTop (entryFrame m #[(.long vs), (.long vt_), (.int vlens), (.int vssid), (.int vpick)] maxLocals)) t := by
            intro t kt
            refine pre158 t ?_
            show Steps p.tables e below (T102.setTop (mkF m 300 #[.val (.long vs), .second, .val (.long vt_), .second, .val (.int vlens), .val (.int vssid), .val (.int vpick), .val (.int xa0), .val (.int xa1), .val (.int xa2), .val (.int xa3), .val (.int xa4), .val (.int xa5), .val (.int xb0), .val (.int xb1), .val (.int xb2), .val (.int xb3), .val (.int xb4), .val (.int xb5), .val (.int (4 : Int32)), .val (.int (Int32.ofNat nB)), .val (.int sA), .val (.int sB), .val (.ref xA), .val (.ref xB), .val (.ref b62), .val (.ref b85), .unset, .unset, .unset] [(.int sB), (.int sA)])) _
            refine XS.icmpYes X102.here hx rfl (pc0 := 300) (pc' := 380) rfl (hb hby at_300) rfl (feq (hc159 : ¬ (sA = sB))).2 (by decide) (by decide) ?_
            show Steps p.tables e below (T102.setTop (mkF m 380 #[.val (.long vs), .second, .val (.long vt_), .second, .val (.int vlens), .val (.int vssid), .val (.int vpick), .val (.int xa0), .val (.int xa1), .val (.int xa2), .val (.int xa3), .val (.int xa4), .val (.int xa5), .val (.int xb0), .val (.int xb1), .val (.int xb2), .val (.int xb3), .val (.int xb4), .val (.int xb5), .val (.int (4 : Int32)), .val (.int (Int32.ofNat nB)), .val (.int sA), .val (.int sB), .val (.ref xA), .val (.ref xB), .val (.ref b62), .val (.ref b85), .unset, .unset, .unset] [])) _
            refine XS.iconst X102.here hx rfl (hb hby at_380) ?_
            exact kt
          exact ⟨T102, _, X102, rfl, N102, fun t kt => pre173 t (by have q : (own_same (Int32.ofNat 4) (Int32.ofNat nB) sA sB xa0 xa1 xa2 xa3 xa4 xa5 xb0 xb1 xb2 xb3 xb4 xb5) = (0 : Int32) := by { rw [own_same]; exact if_neg (fun q => hc159 q.2.1) }; rw [q] at kt; exact kt)⟩
      ·
        have pre174 : ∀ t, Steps p.tables e below (T102.setTop (mkF m 381 #[.val (.long vs), .second, .val (.long vt_), .second, .val (.int vlens), .val (.int vssid), .val (.int vpick), .val (.int xa0), .val (.int xa1), .val (.int xa2), .val (.int xa3), .val (.int xa4), .val (.int xa5), .val (.int xb0), .val (.int xb1), .val (.int xb2), .val (.int xb3), .val (.int xb4), .val (.int xb5), .val (.int (4 : Int32)), .val (.int (Int32.ofNat nB)), .val (.int sA), .val (.int sB), .val (.ref xA), .val (.ref xB), .val (.ref b62), .val (.ref b85), .unset, .unset, .unset] [(.int (0 : Int32))])) t → Steps p.tables e below (s₁.setTop (entryFrame m #[(.long vs), (.long vt_), (.int vlens), (.int vssid), (.int vpick)] maxLocals)) t := by
          intro t kt
          refine pre156 t ?_
          show Steps p.tables e below (T102.setTop (mkF m 293 #[.val (.long vs), .second, .val (.long vt_), .second, .val (.int vlens), .val (.int vssid), .val (.int vpick), .val (.int xa0), .val (.int xa1), .val (.int xa2), .val (.int xa3), .val (.int xa4), .val (.int xa5), .val (.int xb0), .val (.int xb1), .val (.int xb2), .val (.int xb3), .val (.int xb4), .val (.int xb5), .val (.int (4 : Int32)), .val (.int (Int32.ofNat nB)), .val (.int sA), .val (.int sB), .val (.ref xA), .val (.ref xB), .val (.ref b62), .val (.ref b85), .unset, .unset, .unset] [(.int (Int32.ofNat nB)), (.int (4 : Int32))])) _
          refine XS.icmpYes X102.here hx rfl (pc0 := 293) (pc' := 380) rfl (hb hby at_293) rfl (feq (hc157 : ¬ ((4 : Int32) = (Int32.ofNat nB)))).2 (by decide) (by decide) ?_
          show Steps p.tables e below (T102.setTop (mkF m 380 #[.val (.long vs), .second, .val (.long vt_), .second, .val (.int vlens), .val (.int vssid), .val (.int vpick), .val (.int xa0), .val (.int xa1), .val (.int xa2), .val (.int xa3), .val (.int xa4), .val (.int xa5), .val (.int xb0), .val (.int xb1), .val (.int xb2), .val (.int xb3), .val (.int xb4), .val (.int xb5), .val (.int (4 : Int32)), .val (.int (Int32.ofNat nB)), .val (.int sA), .val (.int sB), .val (.ref xA), .val (.ref xB), .val (.ref b62), .val (.ref b85), .unset, .unset, .unset] [])) _
          refine XS.iconst X102.here hx rfl (hb hby at_380) ?_
          exact kt
        exact ⟨T102, _, X102, rfl, N102, fun t kt => pre174 t (by have q : (own_same (Int32.ofNat 4) (Int32.ofNat nB) sA sB xa0 xa1 xa2 xa3 xa4 xa5 xb0 xb1 xb2 xb3 xb4 xb5) = (0 : Int32) := by { rw [own_same]; exact if_neg (fun q => hc157 q.1) }; rw [q] at kt; exact kt)⟩
    ·
      have pre116_5 : ∀ t, Steps p.tables e below (T102.setTop (mkF m 289 #[.val (.long vs), .second, .val (.long vt_), .second, .val (.int vlens), .val (.int vssid), .val (.int vpick), .val (.int xa0), .val (.int xa1), .val (.int xa2), .val (.int xa3), .val (.int xa4), .val (.int xa5), .val (.int xb0), .val (.int xb1), .val (.int xb2), .val (.int xb3), .val (.int xb4), .val (.int xb5), .val (.int (5 : Int32)), .val (.int (Int32.ofNat nB)), .val (.int sA), .val (.int sB), .val (.ref xA), .val (.ref xB), .val (.ref b62), .val (.ref b85), .unset, .unset, .unset] [])) t → Steps p.tables e below (s₁.setTop (entryFrame m #[(.long vs), (.long vt_), (.int vlens), (.int vssid), (.int vpick)] maxLocals)) t := pre115
      have pre175 : ∀ t, Steps p.tables e below (T102.setTop (mkF m 293 #[.val (.long vs), .second, .val (.long vt_), .second, .val (.int vlens), .val (.int vssid), .val (.int vpick), .val (.int xa0), .val (.int xa1), .val (.int xa2), .val (.int xa3), .val (.int xa4), .val (.int xa5), .val (.int xb0), .val (.int xb1), .val (.int xb2), .val (.int xb3), .val (.int xb4), .val (.int xb5), .val (.int (5 : Int32)), .val (.int (Int32.ofNat nB)), .val (.int sA), .val (.int sB), .val (.ref xA), .val (.ref xB), .val (.ref b62), .val (.ref b85), .unset, .unset, .unset] [(.int (Int32.ofNat nB)), (.int (5 : Int32))])) t → Steps p.tables e below (s₁.setTop (entryFrame m #[(.long vs), (.long vt_), (.int vlens), (.int vssid), (.int vpick)] maxLocals)) t := by
        intro t kt
        refine pre116_5 t ?_
        show Steps p.tables e below (T102.setTop (mkF m 289 #[.val (.long vs), .second, .val (.long vt_), .second, .val (.int vlens), .val (.int vssid), .val (.int vpick), .val (.int xa0), .val (.int xa1), .val (.int xa2), .val (.int xa3), .val (.int xa4), .val (.int xa5), .val (.int xb0), .val (.int xb1), .val (.int xb2), .val (.int xb3), .val (.int xb4), .val (.int xb5), .val (.int (5 : Int32)), .val (.int (Int32.ofNat nB)), .val (.int sA), .val (.int sB), .val (.ref xA), .val (.ref xB), .val (.ref b62), .val (.ref b85), .unset, .unset, .unset] [])) _
        refine XS.iload X102.here hx rfl (hb hby at_289) rfl ?_
        show Steps p.tables e below (T102.setTop (mkF m 291 #[.val (.long vs), .second, .val (.long vt_), .second, .val (.int vlens), .val (.int vssid), .val (.int vpick), .val (.int xa0), .val (.int xa1), .val (.int xa2), .val (.int xa3), .val (.int xa4), .val (.int xa5), .val (.int xb0), .val (.int xb1), .val (.int xb2), .val (.int xb3), .val (.int xb4), .val (.int xb5), .val (.int (5 : Int32)), .val (.int (Int32.ofNat nB)), .val (.int sA), .val (.int sB), .val (.ref xA), .val (.ref xB), .val (.ref b62), .val (.ref b85), .unset, .unset, .unset] [(.int (5 : Int32))])) _
        refine XS.iload X102.here hx rfl (hb hby at_291) rfl ?_
        exact kt
      by_cases hc176 : (5 : Int32) = (Int32.ofNat nB)
      ·
        have pre177 : ∀ t, Steps p.tables e below (T102.setTop (mkF m 300 #[.val (.long vs), .second, .val (.long vt_), .second, .val (.int vlens), .val (.int vssid), .val (.int vpick), .val (.int xa0), .val (.int xa1), .val (.int xa2), .val (.int xa3), .val (.int xa4), .val (.int xa5), .val (.int xb0), .val (.int xb1), .val (.int xb2), .val (.int xb3), .val (.int xb4), .val (.int xb5), .val (.int (5 : Int32)), .val (.int (Int32.ofNat nB)), .val (.int sA), .val (.int sB), .val (.ref xA), .val (.ref xB), .val (.ref b62), .val (.ref b85), .unset, .unset, .unset] [(.int sB), (.int sA)])) t → Steps p.tables e below (s₁.setTop (entryFrame m #[(.long vs), (.long vt_), (.int vlens), (.int vssid), (.int vpick)] maxLocals)) t := by
          intro t kt
          refine pre175 t ?_
          show Steps p.tables e below (T102.setTop (mkF m 293 #[.val (.long vs), .second, .val (.long vt_), .second, .val (.int vlens), .val (.int vssid), .val (.int vpick), .val (.int xa0), .val (.int xa1), .val (.int xa2), .val (.int xa3), .val (.int xa4), .val (.int xa5), .val (.int xb0), .val (.int xb1), .val (.int xb2), .val (.int xb3), .val (.int xb4), .val (.int xb5), .val (.int (5 : Int32)), .val (.int (Int32.ofNat nB)), .val (.int sA), .val (.int sB), .val (.ref xA), .val (.ref xB), .val (.ref b62), .val (.ref b85), .unset, .unset, .unset] [(.int (Int32.ofNat nB)), (.int (5 : Int32))])) _
          refine XS.icmpNo X102.here hx rfl (hb hby at_293) rfl (teq (hc176 : (5 : Int32) = (Int32.ofNat nB))).2 ?_
          show Steps p.tables e below (T102.setTop (mkF m 296 #[.val (.long vs), .second, .val (.long vt_), .second, .val (.int vlens), .val (.int vssid), .val (.int vpick), .val (.int xa0), .val (.int xa1), .val (.int xa2), .val (.int xa3), .val (.int xa4), .val (.int xa5), .val (.int xb0), .val (.int xb1), .val (.int xb2), .val (.int xb3), .val (.int xb4), .val (.int xb5), .val (.int (5 : Int32)), .val (.int (Int32.ofNat nB)), .val (.int sA), .val (.int sB), .val (.ref xA), .val (.ref xB), .val (.ref b62), .val (.ref b85), .unset, .unset, .unset] [])) _
          refine XS.iload X102.here hx rfl (hb hby at_296) rfl ?_
          show Steps p.tables e below (T102.setTop (mkF m 298 #[.val (.long vs), .second, .val (.long vt_), .second, .val (.int vlens), .val (.int vssid), .val (.int vpick), .val (.int xa0), .val (.int xa1), .val (.int xa2), .val (.int xa3), .val (.int xa4), .val (.int xa5), .val (.int xb0), .val (.int xb1), .val (.int xb2), .val (.int xb3), .val (.int xb4), .val (.int xb5), .val (.int (5 : Int32)), .val (.int (Int32.ofNat nB)), .val (.int sA), .val (.int sB), .val (.ref xA), .val (.ref xB), .val (.ref b62), .val (.ref b85), .unset, .unset, .unset] [(.int sA)])) _
          refine XS.iload X102.here hx rfl (hb hby at_298) rfl ?_
          exact kt
        by_cases hc178 : sA = sB
        ·
          have pre179 : ∀ t, Steps p.tables e below (T102.setTop (mkF m 307 #[.val (.long vs), .second, .val (.long vt_), .second, .val (.int vlens), .val (.int vssid), .val (.int vpick), .val (.int xa0), .val (.int xa1), .val (.int xa2), .val (.int xa3), .val (.int xa4), .val (.int xa5), .val (.int xb0), .val (.int xb1), .val (.int xb2), .val (.int xb3), .val (.int xb4), .val (.int xb5), .val (.int (5 : Int32)), .val (.int (Int32.ofNat nB)), .val (.int sA), .val (.int sB), .val (.ref xA), .val (.ref xB), .val (.ref b62), .val (.ref b85), .unset, .unset, .unset] [(.int xb0), (.int xa0)])) t → Steps p.tables e below (s₁.setTop (entryFrame m #[(.long vs), (.long vt_), (.int vlens), (.int vssid), (.int vpick)] maxLocals)) t := by
            intro t kt
            refine pre177 t ?_
            show Steps p.tables e below (T102.setTop (mkF m 300 #[.val (.long vs), .second, .val (.long vt_), .second, .val (.int vlens), .val (.int vssid), .val (.int vpick), .val (.int xa0), .val (.int xa1), .val (.int xa2), .val (.int xa3), .val (.int xa4), .val (.int xa5), .val (.int xb0), .val (.int xb1), .val (.int xb2), .val (.int xb3), .val (.int xb4), .val (.int xb5), .val (.int (5 : Int32)), .val (.int (Int32.ofNat nB)), .val (.int sA), .val (.int sB), .val (.ref xA), .val (.ref xB), .val (.ref b62), .val (.ref b85), .unset, .unset, .unset] [(.int sB), (.int sA)])) _
            refine XS.icmpNo X102.here hx rfl (hb hby at_300) rfl (teq (hc178 : sA = sB)).2 ?_
            show Steps p.tables e below (T102.setTop (mkF m 303 #[.val (.long vs), .second, .val (.long vt_), .second, .val (.int vlens), .val (.int vssid), .val (.int vpick), .val (.int xa0), .val (.int xa1), .val (.int xa2), .val (.int xa3), .val (.int xa4), .val (.int xa5), .val (.int xb0), .val (.int xb1), .val (.int xb2), .val (.int xb3), .val (.int xb4), .val (.int xb5), .val (.int (5 : Int32)), .val (.int (Int32.ofNat nB)), .val (.int sA), .val (.int sB), .val (.ref xA), .val (.ref xB), .val (.ref b62), .val (.ref b85), .unset, .unset, .unset] [])) _
            refine XS.iload X102.here hx rfl (hb hby at_303) rfl ?_
            show Steps p.tables e below (T102.setTop (mkF m 305 #[.val (.long vs), .second, .val (.long vt_), .second, .val (.int vlens), .val (.int vssid), .val (.int vpick), .val (.int xa0), .val (.int xa1), .val (.int xa2), .val (.int xa3), .val (.int xa4), .val (.int xa5), .val (.int xb0), .val (.int xb1), .val (.int xb2), .val (.int xb3), .val (.int xb4), .val (.int xb5), .val (.int (5 : Int32)), .val (.int (Int32.ofNat nB)), .val (.int sA), .val (.int sB), .val (.ref xA), .val (.ref xB), .val (.ref b62), .val (.ref b85), .unset, .unset, .unset] [(.int xa0)])) _
            refine XS.iload X102.here hx rfl (hb hby at_305) rfl ?_
            exact kt
          by_cases hc180 : xa0 = xb0
          ·
            have pre181 : ∀ t, Steps p.tables e below (T102.setTop (mkF m 320 #[.val (.long vs), .second, .val (.long vt_), .second, .val (.int vlens), .val (.int vssid), .val (.int vpick), .val (.int xa0), .val (.int xa1), .val (.int xa2), .val (.int xa3), .val (.int xa4), .val (.int xa5), .val (.int xb0), .val (.int xb1), .val (.int xb2), .val (.int xb3), .val (.int xb4), .val (.int xb5), .val (.int (5 : Int32)), .val (.int (Int32.ofNat nB)), .val (.int sA), .val (.int sB), .val (.ref xA), .val (.ref xB), .val (.ref b62), .val (.ref b85), .unset, .unset, .unset] [(.int xb1), (.int xa1)])) t → Steps p.tables e below (s₁.setTop (entryFrame m #[(.long vs), (.long vt_), (.int vlens), (.int vssid), (.int vpick)] maxLocals)) t := by
              intro t kt
              refine pre179 t ?_
              show Steps p.tables e below (T102.setTop (mkF m 307 #[.val (.long vs), .second, .val (.long vt_), .second, .val (.int vlens), .val (.int vssid), .val (.int vpick), .val (.int xa0), .val (.int xa1), .val (.int xa2), .val (.int xa3), .val (.int xa4), .val (.int xa5), .val (.int xb0), .val (.int xb1), .val (.int xb2), .val (.int xb3), .val (.int xb4), .val (.int xb5), .val (.int (5 : Int32)), .val (.int (Int32.ofNat nB)), .val (.int sA), .val (.int sB), .val (.ref xA), .val (.ref xB), .val (.ref b62), .val (.ref b85), .unset, .unset, .unset] [(.int xb0), (.int xa0)])) _
              refine XS.icmpNo X102.here hx rfl (hb hby at_307) rfl (teq (hc180 : xa0 = xb0)).2 ?_
              show Steps p.tables e below (T102.setTop (mkF m 310 #[.val (.long vs), .second, .val (.long vt_), .second, .val (.int vlens), .val (.int vssid), .val (.int vpick), .val (.int xa0), .val (.int xa1), .val (.int xa2), .val (.int xa3), .val (.int xa4), .val (.int xa5), .val (.int xb0), .val (.int xb1), .val (.int xb2), .val (.int xb3), .val (.int xb4), .val (.int xb5), .val (.int (5 : Int32)), .val (.int (Int32.ofNat nB)), .val (.int sA), .val (.int sB), .val (.ref xA), .val (.ref xB), .val (.ref b62), .val (.ref b85), .unset, .unset, .unset] [])) _
              refine XS.iload X102.here hx rfl (hb hby at_310) rfl ?_
              show Steps p.tables e below (T102.setTop (mkF m 312 #[.val (.long vs), .second, .val (.long vt_), .second, .val (.int vlens), .val (.int vssid), .val (.int vpick), .val (.int xa0), .val (.int xa1), .val (.int xa2), .val (.int xa3), .val (.int xa4), .val (.int xa5), .val (.int xb0), .val (.int xb1), .val (.int xb2), .val (.int xb3), .val (.int xb4), .val (.int xb5), .val (.int (5 : Int32)), .val (.int (Int32.ofNat nB)), .val (.int sA), .val (.int sB), .val (.ref xA), .val (.ref xB), .val (.ref b62), .val (.ref b85), .unset, .unset, .unset] [(.int (5 : Int32))])) _
              refine XS.iconst X102.here hx rfl (hb hby at_312) ?_
              show Steps p.tables e below (T102.setTop (mkF m 313 #[.val (.long vs), .second, .val (.long vt_), .second, .val (.int vlens), .val (.int vssid), .val (.int vpick), .val (.int xa0), .val (.int xa1), .val (.int xa2), .val (.int xa3), .val (.int xa4), .val (.int xa5), .val (.int xb0), .val (.int xb1), .val (.int xb2), .val (.int xb3), .val (.int xb4), .val (.int xb5), .val (.int (5 : Int32)), .val (.int (Int32.ofNat nB)), .val (.int sA), .val (.int sB), .val (.ref xA), .val (.ref xB), .val (.ref b62), .val (.ref b85), .unset, .unset, .unset] [(.int (2 : Int32)), (.int (5 : Int32))])) _
              refine XS.icmpNo X102.here hx rfl (hb hby at_313) rfl (flt ((by decide) : ¬ ((5 : Int32) < (2 : Int32)))).1 ?_
              show Steps p.tables e below (T102.setTop (mkF m 316 #[.val (.long vs), .second, .val (.long vt_), .second, .val (.int vlens), .val (.int vssid), .val (.int vpick), .val (.int xa0), .val (.int xa1), .val (.int xa2), .val (.int xa3), .val (.int xa4), .val (.int xa5), .val (.int xb0), .val (.int xb1), .val (.int xb2), .val (.int xb3), .val (.int xb4), .val (.int xb5), .val (.int (5 : Int32)), .val (.int (Int32.ofNat nB)), .val (.int sA), .val (.int sB), .val (.ref xA), .val (.ref xB), .val (.ref b62), .val (.ref b85), .unset, .unset, .unset] [])) _
              refine XS.iload X102.here hx rfl (hb hby at_316) rfl ?_
              show Steps p.tables e below (T102.setTop (mkF m 318 #[.val (.long vs), .second, .val (.long vt_), .second, .val (.int vlens), .val (.int vssid), .val (.int vpick), .val (.int xa0), .val (.int xa1), .val (.int xa2), .val (.int xa3), .val (.int xa4), .val (.int xa5), .val (.int xb0), .val (.int xb1), .val (.int xb2), .val (.int xb3), .val (.int xb4), .val (.int xb5), .val (.int (5 : Int32)), .val (.int (Int32.ofNat nB)), .val (.int sA), .val (.int sB), .val (.ref xA), .val (.ref xB), .val (.ref b62), .val (.ref b85), .unset, .unset, .unset] [(.int xa1)])) _
              refine XS.iload X102.here hx rfl (hb hby at_318) rfl ?_
              exact kt
            by_cases hc182 : xa1 = xb1
            ·
              have pre183 : ∀ t, Steps p.tables e below (T102.setTop (mkF m 333 #[.val (.long vs), .second, .val (.long vt_), .second, .val (.int vlens), .val (.int vssid), .val (.int vpick), .val (.int xa0), .val (.int xa1), .val (.int xa2), .val (.int xa3), .val (.int xa4), .val (.int xa5), .val (.int xb0), .val (.int xb1), .val (.int xb2), .val (.int xb3), .val (.int xb4), .val (.int xb5), .val (.int (5 : Int32)), .val (.int (Int32.ofNat nB)), .val (.int sA), .val (.int sB), .val (.ref xA), .val (.ref xB), .val (.ref b62), .val (.ref b85), .unset, .unset, .unset] [(.int xb2), (.int xa2)])) t → Steps p.tables e below (s₁.setTop (entryFrame m #[(.long vs), (.long vt_), (.int vlens), (.int vssid), (.int vpick)] maxLocals)) t := by
                intro t kt
                refine pre181 t ?_
                show Steps p.tables e below (T102.setTop (mkF m 320 #[.val (.long vs), .second, .val (.long vt_), .second, .val (.int vlens), .val (.int vssid), .val (.int vpick), .val (.int xa0), .val (.int xa1), .val (.int xa2), .val (.int xa3), .val (.int xa4), .val (.int xa5), .val (.int xb0), .val (.int xb1), .val (.int xb2), .val (.int xb3), .val (.int xb4), .val (.int xb5), .val (.int (5 : Int32)), .val (.int (Int32.ofNat nB)), .val (.int sA), .val (.int sB), .val (.ref xA), .val (.ref xB), .val (.ref b62), .val (.ref b85), .unset, .unset, .unset] [(.int xb1), (.int xa1)])) _
                refine XS.icmpNo X102.here hx rfl (hb hby at_320) rfl (teq (hc182 : xa1 = xb1)).2 ?_
                show Steps p.tables e below (T102.setTop (mkF m 323 #[.val (.long vs), .second, .val (.long vt_), .second, .val (.int vlens), .val (.int vssid), .val (.int vpick), .val (.int xa0), .val (.int xa1), .val (.int xa2), .val (.int xa3), .val (.int xa4), .val (.int xa5), .val (.int xb0), .val (.int xb1), .val (.int xb2), .val (.int xb3), .val (.int xb4), .val (.int xb5), .val (.int (5 : Int32)), .val (.int (Int32.ofNat nB)), .val (.int sA), .val (.int sB), .val (.ref xA), .val (.ref xB), .val (.ref b62), .val (.ref b85), .unset, .unset, .unset] [])) _
                refine XS.iload X102.here hx rfl (hb hby at_323) rfl ?_
                show Steps p.tables e below (T102.setTop (mkF m 325 #[.val (.long vs), .second, .val (.long vt_), .second, .val (.int vlens), .val (.int vssid), .val (.int vpick), .val (.int xa0), .val (.int xa1), .val (.int xa2), .val (.int xa3), .val (.int xa4), .val (.int xa5), .val (.int xb0), .val (.int xb1), .val (.int xb2), .val (.int xb3), .val (.int xb4), .val (.int xb5), .val (.int (5 : Int32)), .val (.int (Int32.ofNat nB)), .val (.int sA), .val (.int sB), .val (.ref xA), .val (.ref xB), .val (.ref b62), .val (.ref b85), .unset, .unset, .unset] [(.int (5 : Int32))])) _
                refine XS.iconst X102.here hx rfl (hb hby at_325) ?_
                show Steps p.tables e below (T102.setTop (mkF m 326 #[.val (.long vs), .second, .val (.long vt_), .second, .val (.int vlens), .val (.int vssid), .val (.int vpick), .val (.int xa0), .val (.int xa1), .val (.int xa2), .val (.int xa3), .val (.int xa4), .val (.int xa5), .val (.int xb0), .val (.int xb1), .val (.int xb2), .val (.int xb3), .val (.int xb4), .val (.int xb5), .val (.int (5 : Int32)), .val (.int (Int32.ofNat nB)), .val (.int sA), .val (.int sB), .val (.ref xA), .val (.ref xB), .val (.ref b62), .val (.ref b85), .unset, .unset, .unset] [(.int (3 : Int32)), (.int (5 : Int32))])) _
                refine XS.icmpNo X102.here hx rfl (hb hby at_326) rfl (flt ((by decide) : ¬ ((5 : Int32) < (3 : Int32)))).1 ?_
                show Steps p.tables e below (T102.setTop (mkF m 329 #[.val (.long vs), .second, .val (.long vt_), .second, .val (.int vlens), .val (.int vssid), .val (.int vpick), .val (.int xa0), .val (.int xa1), .val (.int xa2), .val (.int xa3), .val (.int xa4), .val (.int xa5), .val (.int xb0), .val (.int xb1), .val (.int xb2), .val (.int xb3), .val (.int xb4), .val (.int xb5), .val (.int (5 : Int32)), .val (.int (Int32.ofNat nB)), .val (.int sA), .val (.int sB), .val (.ref xA), .val (.ref xB), .val (.ref b62), .val (.ref b85), .unset, .unset, .unset] [])) _
                refine XS.iload X102.here hx rfl (hb hby at_329) rfl ?_
                show Steps p.tables e below (T102.setTop (mkF m 331 #[.val (.long vs), .second, .val (.long vt_), .second, .val (.int vlens), .val (.int vssid), .val (.int vpick), .val (.int xa0), .val (.int xa1), .val (.int xa2), .val (.int xa3), .val (.int xa4), .val (.int xa5), .val (.int xb0), .val (.int xb1), .val (.int xb2), .val (.int xb3), .val (.int xb4), .val (.int xb5), .val (.int (5 : Int32)), .val (.int (Int32.ofNat nB)), .val (.int sA), .val (.int sB), .val (.ref xA), .val (.ref xB), .val (.ref b62), .val (.ref b85), .unset, .unset, .unset] [(.int xa2)])) _
                refine XS.iload X102.here hx rfl (hb hby at_331) rfl ?_
                exact kt
              by_cases hc184 : xa2 = xb2
              ·
                have pre185 : ∀ t, Steps p.tables e below (T102.setTop (mkF m 346 #[.val (.long vs), .second, .val (.long vt_), .second, .val (.int vlens), .val (.int vssid), .val (.int vpick), .val (.int xa0), .val (.int xa1), .val (.int xa2), .val (.int xa3), .val (.int xa4), .val (.int xa5), .val (.int xb0), .val (.int xb1), .val (.int xb2), .val (.int xb3), .val (.int xb4), .val (.int xb5), .val (.int (5 : Int32)), .val (.int (Int32.ofNat nB)), .val (.int sA), .val (.int sB), .val (.ref xA), .val (.ref xB), .val (.ref b62), .val (.ref b85), .unset, .unset, .unset] [(.int xb3), (.int xa3)])) t → Steps p.tables e below (s₁.setTop (entryFrame m #[(.long vs), (.long vt_), (.int vlens), (.int vssid), (.int vpick)] maxLocals)) t := by
                  intro t kt
                  refine pre183 t ?_
                  show Steps p.tables e below (T102.setTop (mkF m 333 #[.val (.long vs), .second, .val (.long vt_), .second, .val (.int vlens), .val (.int vssid), .val (.int vpick), .val (.int xa0), .val (.int xa1), .val (.int xa2), .val (.int xa3), .val (.int xa4), .val (.int xa5), .val (.int xb0), .val (.int xb1), .val (.int xb2), .val (.int xb3), .val (.int xb4), .val (.int xb5), .val (.int (5 : Int32)), .val (.int (Int32.ofNat nB)), .val (.int sA), .val (.int sB), .val (.ref xA), .val (.ref xB), .val (.ref b62), .val (.ref b85), .unset, .unset, .unset] [(.int xb2), (.int xa2)])) _
                  refine XS.icmpNo X102.here hx rfl (hb hby at_333) rfl (teq (hc184 : xa2 = xb2)).2 ?_
                  show Steps p.tables e below (T102.setTop (mkF m 336 #[.val (.long vs), .second, .val (.long vt_), .second, .val (.int vlens), .val (.int vssid), .val (.int vpick), .val (.int xa0), .val (.int xa1), .val (.int xa2), .val (.int xa3), .val (.int xa4), .val (.int xa5), .val (.int xb0), .val (.int xb1), .val (.int xb2), .val (.int xb3), .val (.int xb4), .val (.int xb5), .val (.int (5 : Int32)), .val (.int (Int32.ofNat nB)), .val (.int sA), .val (.int sB), .val (.ref xA), .val (.ref xB), .val (.ref b62), .val (.ref b85), .unset, .unset, .unset] [])) _
                  refine XS.iload X102.here hx rfl (hb hby at_336) rfl ?_
                  show Steps p.tables e below (T102.setTop (mkF m 338 #[.val (.long vs), .second, .val (.long vt_), .second, .val (.int vlens), .val (.int vssid), .val (.int vpick), .val (.int xa0), .val (.int xa1), .val (.int xa2), .val (.int xa3), .val (.int xa4), .val (.int xa5), .val (.int xb0), .val (.int xb1), .val (.int xb2), .val (.int xb3), .val (.int xb4), .val (.int xb5), .val (.int (5 : Int32)), .val (.int (Int32.ofNat nB)), .val (.int sA), .val (.int sB), .val (.ref xA), .val (.ref xB), .val (.ref b62), .val (.ref b85), .unset, .unset, .unset] [(.int (5 : Int32))])) _
                  refine XS.iconst X102.here hx rfl (hb hby at_338) ?_
                  show Steps p.tables e below (T102.setTop (mkF m 339 #[.val (.long vs), .second, .val (.long vt_), .second, .val (.int vlens), .val (.int vssid), .val (.int vpick), .val (.int xa0), .val (.int xa1), .val (.int xa2), .val (.int xa3), .val (.int xa4), .val (.int xa5), .val (.int xb0), .val (.int xb1), .val (.int xb2), .val (.int xb3), .val (.int xb4), .val (.int xb5), .val (.int (5 : Int32)), .val (.int (Int32.ofNat nB)), .val (.int sA), .val (.int sB), .val (.ref xA), .val (.ref xB), .val (.ref b62), .val (.ref b85), .unset, .unset, .unset] [(.int (4 : Int32)), (.int (5 : Int32))])) _
                  refine XS.icmpNo X102.here hx rfl (hb hby at_339) rfl (flt ((by decide) : ¬ ((5 : Int32) < (4 : Int32)))).1 ?_
                  show Steps p.tables e below (T102.setTop (mkF m 342 #[.val (.long vs), .second, .val (.long vt_), .second, .val (.int vlens), .val (.int vssid), .val (.int vpick), .val (.int xa0), .val (.int xa1), .val (.int xa2), .val (.int xa3), .val (.int xa4), .val (.int xa5), .val (.int xb0), .val (.int xb1), .val (.int xb2), .val (.int xb3), .val (.int xb4), .val (.int xb5), .val (.int (5 : Int32)), .val (.int (Int32.ofNat nB)), .val (.int sA), .val (.int sB), .val (.ref xA), .val (.ref xB), .val (.ref b62), .val (.ref b85), .unset, .unset, .unset] [])) _
                  refine XS.iload X102.here hx rfl (hb hby at_342) rfl ?_
                  show Steps p.tables e below (T102.setTop (mkF m 344 #[.val (.long vs), .second, .val (.long vt_), .second, .val (.int vlens), .val (.int vssid), .val (.int vpick), .val (.int xa0), .val (.int xa1), .val (.int xa2), .val (.int xa3), .val (.int xa4), .val (.int xa5), .val (.int xb0), .val (.int xb1), .val (.int xb2), .val (.int xb3), .val (.int xb4), .val (.int xb5), .val (.int (5 : Int32)), .val (.int (Int32.ofNat nB)), .val (.int sA), .val (.int sB), .val (.ref xA), .val (.ref xB), .val (.ref b62), .val (.ref b85), .unset, .unset, .unset] [(.int xa3)])) _
                  refine XS.iload X102.here hx rfl (hb hby at_344) rfl ?_
                  exact kt
                by_cases hc186 : xa3 = xb3
                ·
                  have pre187 : ∀ t, Steps p.tables e below (T102.setTop (mkF m 359 #[.val (.long vs), .second, .val (.long vt_), .second, .val (.int vlens), .val (.int vssid), .val (.int vpick), .val (.int xa0), .val (.int xa1), .val (.int xa2), .val (.int xa3), .val (.int xa4), .val (.int xa5), .val (.int xb0), .val (.int xb1), .val (.int xb2), .val (.int xb3), .val (.int xb4), .val (.int xb5), .val (.int (5 : Int32)), .val (.int (Int32.ofNat nB)), .val (.int sA), .val (.int sB), .val (.ref xA), .val (.ref xB), .val (.ref b62), .val (.ref b85), .unset, .unset, .unset] [(.int xb4), (.int xa4)])) t → Steps p.tables e below (s₁.setTop (entryFrame m #[(.long vs), (.long vt_), (.int vlens), (.int vssid), (.int vpick)] maxLocals)) t := by
                    intro t kt
                    refine pre185 t ?_
                    show Steps p.tables e below (T102.setTop (mkF m 346 #[.val (.long vs), .second, .val (.long vt_), .second, .val (.int vlens), .val (.int vssid), .val (.int vpick), .val (.int xa0), .val (.int xa1), .val (.int xa2), .val (.int xa3), .val (.int xa4), .val (.int xa5), .val (.int xb0), .val (.int xb1), .val (.int xb2), .val (.int xb3), .val (.int xb4), .val (.int xb5), .val (.int (5 : Int32)), .val (.int (Int32.ofNat nB)), .val (.int sA), .val (.int sB), .val (.ref xA), .val (.ref xB), .val (.ref b62), .val (.ref b85), .unset, .unset, .unset] [(.int xb3), (.int xa3)])) _
                    refine XS.icmpNo X102.here hx rfl (hb hby at_346) rfl (teq (hc186 : xa3 = xb3)).2 ?_
                    show Steps p.tables e below (T102.setTop (mkF m 349 #[.val (.long vs), .second, .val (.long vt_), .second, .val (.int vlens), .val (.int vssid), .val (.int vpick), .val (.int xa0), .val (.int xa1), .val (.int xa2), .val (.int xa3), .val (.int xa4), .val (.int xa5), .val (.int xb0), .val (.int xb1), .val (.int xb2), .val (.int xb3), .val (.int xb4), .val (.int xb5), .val (.int (5 : Int32)), .val (.int (Int32.ofNat nB)), .val (.int sA), .val (.int sB), .val (.ref xA), .val (.ref xB), .val (.ref b62), .val (.ref b85), .unset, .unset, .unset] [])) _
                    refine XS.iload X102.here hx rfl (hb hby at_349) rfl ?_
                    show Steps p.tables e below (T102.setTop (mkF m 351 #[.val (.long vs), .second, .val (.long vt_), .second, .val (.int vlens), .val (.int vssid), .val (.int vpick), .val (.int xa0), .val (.int xa1), .val (.int xa2), .val (.int xa3), .val (.int xa4), .val (.int xa5), .val (.int xb0), .val (.int xb1), .val (.int xb2), .val (.int xb3), .val (.int xb4), .val (.int xb5), .val (.int (5 : Int32)), .val (.int (Int32.ofNat nB)), .val (.int sA), .val (.int sB), .val (.ref xA), .val (.ref xB), .val (.ref b62), .val (.ref b85), .unset, .unset, .unset] [(.int (5 : Int32))])) _
                    refine XS.iconst X102.here hx rfl (hb hby at_351) ?_
                    show Steps p.tables e below (T102.setTop (mkF m 352 #[.val (.long vs), .second, .val (.long vt_), .second, .val (.int vlens), .val (.int vssid), .val (.int vpick), .val (.int xa0), .val (.int xa1), .val (.int xa2), .val (.int xa3), .val (.int xa4), .val (.int xa5), .val (.int xb0), .val (.int xb1), .val (.int xb2), .val (.int xb3), .val (.int xb4), .val (.int xb5), .val (.int (5 : Int32)), .val (.int (Int32.ofNat nB)), .val (.int sA), .val (.int sB), .val (.ref xA), .val (.ref xB), .val (.ref b62), .val (.ref b85), .unset, .unset, .unset] [(.int (5 : Int32)), (.int (5 : Int32))])) _
                    refine XS.icmpNo X102.here hx rfl (hb hby at_352) rfl (flt ((by decide) : ¬ ((5 : Int32) < (5 : Int32)))).1 ?_
                    show Steps p.tables e below (T102.setTop (mkF m 355 #[.val (.long vs), .second, .val (.long vt_), .second, .val (.int vlens), .val (.int vssid), .val (.int vpick), .val (.int xa0), .val (.int xa1), .val (.int xa2), .val (.int xa3), .val (.int xa4), .val (.int xa5), .val (.int xb0), .val (.int xb1), .val (.int xb2), .val (.int xb3), .val (.int xb4), .val (.int xb5), .val (.int (5 : Int32)), .val (.int (Int32.ofNat nB)), .val (.int sA), .val (.int sB), .val (.ref xA), .val (.ref xB), .val (.ref b62), .val (.ref b85), .unset, .unset, .unset] [])) _
                    refine XS.iload X102.here hx rfl (hb hby at_355) rfl ?_
                    show Steps p.tables e below (T102.setTop (mkF m 357 #[.val (.long vs), .second, .val (.long vt_), .second, .val (.int vlens), .val (.int vssid), .val (.int vpick), .val (.int xa0), .val (.int xa1), .val (.int xa2), .val (.int xa3), .val (.int xa4), .val (.int xa5), .val (.int xb0), .val (.int xb1), .val (.int xb2), .val (.int xb3), .val (.int xb4), .val (.int xb5), .val (.int (5 : Int32)), .val (.int (Int32.ofNat nB)), .val (.int sA), .val (.int sB), .val (.ref xA), .val (.ref xB), .val (.ref b62), .val (.ref b85), .unset, .unset, .unset] [(.int xa4)])) _
                    refine XS.iload X102.here hx rfl (hb hby at_357) rfl ?_
                    exact kt
                  by_cases hc188 : xa4 = xb4
                  ·
                    have pre189 : ∀ t, Steps p.tables e below (T102.setTop (mkF m 381 #[.val (.long vs), .second, .val (.long vt_), .second, .val (.int vlens), .val (.int vssid), .val (.int vpick), .val (.int xa0), .val (.int xa1), .val (.int xa2), .val (.int xa3), .val (.int xa4), .val (.int xa5), .val (.int xb0), .val (.int xb1), .val (.int xb2), .val (.int xb3), .val (.int xb4), .val (.int xb5), .val (.int (5 : Int32)), .val (.int (Int32.ofNat nB)), .val (.int sA), .val (.int sB), .val (.ref xA), .val (.ref xB), .val (.ref b62), .val (.ref b85), .unset, .unset, .unset] [(.int (1 : Int32))])) t → Steps p.tables e below (s₁.setTop (entryFrame m #[(.long vs), (.long vt_), (.int vlens), (.int vssid), (.int vpick)] maxLocals)) t := by
                      intro t kt
                      refine pre187 t ?_
                      show Steps p.tables e below (T102.setTop (mkF m 359 #[.val (.long vs), .second, .val (.long vt_), .second, .val (.int vlens), .val (.int vssid), .val (.int vpick), .val (.int xa0), .val (.int xa1), .val (.int xa2), .val (.int xa3), .val (.int xa4), .val (.int xa5), .val (.int xb0), .val (.int xb1), .val (.int xb2), .val (.int xb3), .val (.int xb4), .val (.int xb5), .val (.int (5 : Int32)), .val (.int (Int32.ofNat nB)), .val (.int sA), .val (.int sB), .val (.ref xA), .val (.ref xB), .val (.ref b62), .val (.ref b85), .unset, .unset, .unset] [(.int xb4), (.int xa4)])) _
                      refine XS.icmpNo X102.here hx rfl (hb hby at_359) rfl (teq (hc188 : xa4 = xb4)).2 ?_
                      show Steps p.tables e below (T102.setTop (mkF m 362 #[.val (.long vs), .second, .val (.long vt_), .second, .val (.int vlens), .val (.int vssid), .val (.int vpick), .val (.int xa0), .val (.int xa1), .val (.int xa2), .val (.int xa3), .val (.int xa4), .val (.int xa5), .val (.int xb0), .val (.int xb1), .val (.int xb2), .val (.int xb3), .val (.int xb4), .val (.int xb5), .val (.int (5 : Int32)), .val (.int (Int32.ofNat nB)), .val (.int sA), .val (.int sB), .val (.ref xA), .val (.ref xB), .val (.ref b62), .val (.ref b85), .unset, .unset, .unset] [])) _
                      refine XS.iload X102.here hx rfl (hb hby at_362) rfl ?_
                      show Steps p.tables e below (T102.setTop (mkF m 364 #[.val (.long vs), .second, .val (.long vt_), .second, .val (.int vlens), .val (.int vssid), .val (.int vpick), .val (.int xa0), .val (.int xa1), .val (.int xa2), .val (.int xa3), .val (.int xa4), .val (.int xa5), .val (.int xb0), .val (.int xb1), .val (.int xb2), .val (.int xb3), .val (.int xb4), .val (.int xb5), .val (.int (5 : Int32)), .val (.int (Int32.ofNat nB)), .val (.int sA), .val (.int sB), .val (.ref xA), .val (.ref xB), .val (.ref b62), .val (.ref b85), .unset, .unset, .unset] [(.int (5 : Int32))])) _
                      refine XS.bipush X102.here hx rfl (hb hby at_364) ?_
                      show Steps p.tables e below (T102.setTop (mkF m 366 #[.val (.long vs), .second, .val (.long vt_), .second, .val (.int vlens), .val (.int vssid), .val (.int vpick), .val (.int xa0), .val (.int xa1), .val (.int xa2), .val (.int xa3), .val (.int xa4), .val (.int xa5), .val (.int xb0), .val (.int xb1), .val (.int xb2), .val (.int xb3), .val (.int xb4), .val (.int xb5), .val (.int (5 : Int32)), .val (.int (Int32.ofNat nB)), .val (.int sA), .val (.int sB), .val (.ref xA), .val (.ref xB), .val (.ref b62), .val (.ref b85), .unset, .unset, .unset] [(.int (6 : Int32)), (.int (5 : Int32))])) _
                      refine XS.icmpYes X102.here hx rfl (pc0 := 366) (pc' := 376) rfl (hb hby at_366) rfl (tlt ((by decide) : (5 : Int32) < (6 : Int32))).1 (by decide) (by decide) ?_
                      show Steps p.tables e below (T102.setTop (mkF m 376 #[.val (.long vs), .second, .val (.long vt_), .second, .val (.int vlens), .val (.int vssid), .val (.int vpick), .val (.int xa0), .val (.int xa1), .val (.int xa2), .val (.int xa3), .val (.int xa4), .val (.int xa5), .val (.int xb0), .val (.int xb1), .val (.int xb2), .val (.int xb3), .val (.int xb4), .val (.int xb5), .val (.int (5 : Int32)), .val (.int (Int32.ofNat nB)), .val (.int sA), .val (.int sB), .val (.ref xA), .val (.ref xB), .val (.ref b62), .val (.ref b85), .unset, .unset, .unset] [])) _
                      refine XS.iconst X102.here hx rfl (hb hby at_376) ?_
                      show Steps p.tables e below (T102.setTop (mkF m 377 #[.val (.long vs), .second, .val (.long vt_), .second, .val (.int vlens), .val (.int vssid), .val (.int vpick), .val (.int xa0), .val (.int xa1), .val (.int xa2), .val (.int xa3), .val (.int xa4), .val (.int xa5), .val (.int xb0), .val (.int xb1), .val (.int xb2), .val (.int xb3), .val (.int xb4), .val (.int xb5), .val (.int (5 : Int32)), .val (.int (Int32.ofNat nB)), .val (.int sA), .val (.int sB), .val (.ref xA), .val (.ref xB), .val (.ref b62), .val (.ref b85), .unset, .unset, .unset] [(.int (1 : Int32))])) _
                      refine XS.goto X102.here hx rfl (pc0 := 377) (pc' := 381) rfl (hb hby at_377) (by decide) (by decide) ?_
                      exact kt
                    exact ⟨T102, _, X102, rfl, N102, fun t kt => pre189 t (by have q : (own_same (Int32.ofNat 5) (Int32.ofNat nB) sA sB xa0 xa1 xa2 xa3 xa4 xa5 xb0 xb1 xb2 xb3 xb4 xb5) = (1 : Int32) := by { rw [own_same]; exact if_pos ⟨hc176, hc178, hc180, Or.inr hc182, Or.inr hc184, Or.inr hc186, Or.inr hc188, Or.inl (by decide)⟩ }; rw [q] at kt; exact kt)⟩
                  ·
                    have pre190 : ∀ t, Steps p.tables e below (T102.setTop (mkF m 381 #[.val (.long vs), .second, .val (.long vt_), .second, .val (.int vlens), .val (.int vssid), .val (.int vpick), .val (.int xa0), .val (.int xa1), .val (.int xa2), .val (.int xa3), .val (.int xa4), .val (.int xa5), .val (.int xb0), .val (.int xb1), .val (.int xb2), .val (.int xb3), .val (.int xb4), .val (.int xb5), .val (.int (5 : Int32)), .val (.int (Int32.ofNat nB)), .val (.int sA), .val (.int sB), .val (.ref xA), .val (.ref xB), .val (.ref b62), .val (.ref b85), .unset, .unset, .unset] [(.int (0 : Int32))])) t → Steps p.tables e below (s₁.setTop (entryFrame m #[(.long vs), (.long vt_), (.int vlens), (.int vssid), (.int vpick)] maxLocals)) t := by
                      intro t kt
                      refine pre187 t ?_
                      show Steps p.tables e below (T102.setTop (mkF m 359 #[.val (.long vs), .second, .val (.long vt_), .second, .val (.int vlens), .val (.int vssid), .val (.int vpick), .val (.int xa0), .val (.int xa1), .val (.int xa2), .val (.int xa3), .val (.int xa4), .val (.int xa5), .val (.int xb0), .val (.int xb1), .val (.int xb2), .val (.int xb3), .val (.int xb4), .val (.int xb5), .val (.int (5 : Int32)), .val (.int (Int32.ofNat nB)), .val (.int sA), .val (.int sB), .val (.ref xA), .val (.ref xB), .val (.ref b62), .val (.ref b85), .unset, .unset, .unset] [(.int xb4), (.int xa4)])) _
                      refine XS.icmpYes X102.here hx rfl (pc0 := 359) (pc' := 380) rfl (hb hby at_359) rfl (feq (hc188 : ¬ (xa4 = xb4))).2 (by decide) (by decide) ?_
                      show Steps p.tables e below (T102.setTop (mkF m 380 #[.val (.long vs), .second, .val (.long vt_), .second, .val (.int vlens), .val (.int vssid), .val (.int vpick), .val (.int xa0), .val (.int xa1), .val (.int xa2), .val (.int xa3), .val (.int xa4), .val (.int xa5), .val (.int xb0), .val (.int xb1), .val (.int xb2), .val (.int xb3), .val (.int xb4), .val (.int xb5), .val (.int (5 : Int32)), .val (.int (Int32.ofNat nB)), .val (.int sA), .val (.int sB), .val (.ref xA), .val (.ref xB), .val (.ref b62), .val (.ref b85), .unset, .unset, .unset] [])) _
                      refine XS.iconst X102.here hx rfl (hb hby at_380) ?_
                      exact kt
                    exact ⟨T102, _, X102, rfl, N102, fun t kt => pre190 t (by have q : (own_same (Int32.ofNat 5) (Int32.ofNat nB) sA sB xa0 xa1 xa2 xa3 xa4 xa5 xb0 xb1 xb2 xb3 xb4 xb5) = (0 : Int32) := by { rw [own_same]; exact if_neg (fun q => hc188 (q.2.2.2.2.2.2.1.resolve_left (by decide))) }; rw [q] at kt; exact kt)⟩
                ·
                  have pre191 : ∀ t, Steps p.tables e below (T102.setTop (mkF m 381 #[.val (.long vs), .second, .val (.long vt_), .second, .val (.int vlens), .val (.int vssid), .val (.int vpick), .val (.int xa0), .val (.int xa1), .val (.int xa2), .val (.int xa3), .val (.int xa4), .val (.int xa5), .val (.int xb0), .val (.int xb1), .val (.int xb2), .val (.int xb3), .val (.int xb4), .val (.int xb5), .val (.int (5 : Int32)), .val (.int (Int32.ofNat nB)), .val (.int sA), .val (.int sB), .val (.ref xA), .val (.ref xB), .val (.ref b62), .val (.ref b85), .unset, .unset, .unset] [(.int (0 : Int32))])) t → Steps p.tables e below (s₁.setTop (entryFrame m #[(.long vs), (.long vt_), (.int vlens), (.int vssid), (.int vpick)] maxLocals)) t := by
                    intro t kt
                    refine pre185 t ?_
                    show Steps p.tables e below (T102.setTop (mkF m 346 #[.val (.long vs), .second, .val (.long vt_), .second, .val (.int vlens), .val (.int vssid), .val (.int vpick), .val (.int xa0), .val (.int xa1), .val (.int xa2), .val (.int xa3), .val (.int xa4), .val (.int xa5), .val (.int xb0), .val (.int xb1), .val (.int xb2), .val (.int xb3), .val (.int xb4), .val (.int xb5), .val (.int (5 : Int32)), .val (.int (Int32.ofNat nB)), .val (.int sA), .val (.int sB), .val (.ref xA), .val (.ref xB), .val (.ref b62), .val (.ref b85), .unset, .unset, .unset] [(.int xb3), (.int xa3)])) _
                    refine XS.icmpYes X102.here hx rfl (pc0 := 346) (pc' := 380) rfl (hb hby at_346) rfl (feq (hc186 : ¬ (xa3 = xb3))).2 (by decide) (by decide) ?_
                    show Steps p.tables e below (T102.setTop (mkF m 380 #[.val (.long vs), .second, .val (.long vt_), .second, .val (.int vlens), .val (.int vssid), .val (.int vpick), .val (.int xa0), .val (.int xa1), .val (.int xa2), .val (.int xa3), .val (.int xa4), .val (.int xa5), .val (.int xb0), .val (.int xb1), .val (.int xb2), .val (.int xb3), .val (.int xb4), .val (.int xb5), .val (.int (5 : Int32)), .val (.int (Int32.ofNat nB)), .val (.int sA), .val (.int sB), .val (.ref xA), .val (.ref xB), .val (.ref b62), .val (.ref b85), .unset, .unset, .unset] [])) _
                    refine XS.iconst X102.here hx rfl (hb hby at_380) ?_
                    exact kt
                  exact ⟨T102, _, X102, rfl, N102, fun t kt => pre191 t (by have q : (own_same (Int32.ofNat 5) (Int32.ofNat nB) sA sB xa0 xa1 xa2 xa3 xa4 xa5 xb0 xb1 xb2 xb3 xb4 xb5) = (0 : Int32) := by { rw [own_same]; exact if_neg (fun q => hc186 (q.2.2.2.2.2.1.resolve_left (by decide))) }; rw [q] at kt; exact kt)⟩
              ·
                have pre192 : ∀ t, Steps p.tables e below (T102.setTop (mkF m 381 #[.val (.long vs), .second, .val (.long vt_), .second, .val (.int vlens), .val (.int vssid), .val (.int vpick), .val (.int xa0), .val (.int xa1), .val (.int xa2), .val (.int xa3), .val (.int xa4), .val (.int xa5), .val (.int xb0), .val (.int xb1), .val (.int xb2), .val (.int xb3), .val (.int xb4), .val (.int xb5), .val (.int (5 : Int32)), .val (.int (Int32.ofNat nB)), .val (.int sA), .val (.int sB), .val (.ref xA), .val (.ref xB), .val (.ref b62), .val (.ref b85), .unset, .unset, .unset] [(.int (0 : Int32))])) t → Steps p.tables e below (s₁.setTop (entryFrame m #[(.long vs), (.long vt_), (.int vlens), (.int vssid), (.int vpick)] maxLocals)) t := by
                  intro t kt
                  refine pre183 t ?_
                  show Steps p.tables e below (T102.setTop (mkF m 333 #[.val (.long vs), .second, .val (.long vt_), .second, .val (.int vlens), .val (.int vssid), .val (.int vpick), .val (.int xa0), .val (.int xa1), .val (.int xa2), .val (.int xa3), .val (.int xa4), .val (.int xa5), .val (.int xb0), .val (.int xb1), .val (.int xb2), .val (.int xb3), .val (.int xb4), .val (.int xb5), .val (.int (5 : Int32)), .val (.int (Int32.ofNat nB)), .val (.int sA), .val (.int sB), .val (.ref xA), .val (.ref xB), .val (.ref b62), .val (.ref b85), .unset, .unset, .unset] [(.int xb2), (.int xa2)])) _
                  refine XS.icmpYes X102.here hx rfl (pc0 := 333) (pc' := 380) rfl (hb hby at_333) rfl (feq (hc184 : ¬ (xa2 = xb2))).2 (by decide) (by decide) ?_
                  show Steps p.tables e below (T102.setTop (mkF m 380 #[.val (.long vs), .second, .val (.long vt_), .second, .val (.int vlens), .val (.int vssid), .val (.int vpick), .val (.int xa0), .val (.int xa1), .val (.int xa2), .val (.int xa3), .val (.int xa4), .val (.int xa5), .val (.int xb0), .val (.int xb1), .val (.int xb2), .val (.int xb3), .val (.int xb4), .val (.int xb5), .val (.int (5 : Int32)), .val (.int (Int32.ofNat nB)), .val (.int sA), .val (.int sB), .val (.ref xA), .val (.ref xB), .val (.ref b62), .val (.ref b85), .unset, .unset, .unset] [])) _
                  refine XS.iconst X102.here hx rfl (hb hby at_380) ?_
                  exact kt
                exact ⟨T102, _, X102, rfl, N102, fun t kt => pre192 t (by have q : (own_same (Int32.ofNat 5) (Int32.ofNat nB) sA sB xa0 xa1 xa2 xa3 xa4 xa5 xb0 xb1 xb2 xb3 xb4 xb5) = (0 : Int32) := by { rw [own_same]; exact if_neg (fun q => hc184 (q.2.2.2.2.1.resolve_left (by decide))) }; rw [q] at kt; exact kt)⟩
            ·
              have pre193 : ∀ t, Steps p.tables e below (T102.setTop (mkF m 381 #[.val (.long vs), .second, .val (.long vt_), .second, .val (.int vlens), .val (.int vssid), .val (.int vpick), .val (.int xa0), .val (.int xa1), .val (.int xa2), .val (.int xa3), .val (.int xa4), .val (.int xa5), .val (.int xb0), .val (.int xb1), .val (.int xb2), .val (.int xb3), .val (.int xb4), .val (.int xb5), .val (.int (5 : Int32)), .val (.int (Int32.ofNat nB)), .val (.int sA), .val (.int sB), .val (.ref xA), .val (.ref xB), .val (.ref b62), .val (.ref b85), .unset, .unset, .unset] [(.int (0 : Int32))])) t → Steps p.tables e below (s₁.setTop (entryFrame m #[(.long vs), (.long vt_), (.int vlens), (.int vssid), (.int vpick)] maxLocals)) t := by
                intro t kt
                refine pre181 t ?_
                show Steps p.tables e below (T102.setTop (mkF m 320 #[.val (.long vs), .second, .val (.long vt_), .second, .val (.int vlens), .val (.int vssid), .val (.int vpick), .val (.int xa0), .val (.int xa1), .val (.int xa2), .val (.int xa3), .val (.int xa4), .val (.int xa5), .val (.int xb0), .val (.int xb1), .val (.int xb2), .val (.int xb3), .val (.int xb4), .val (.int xb5), .val (.int (5 : Int32)), .val (.int (Int32.ofNat nB)), .val (.int sA), .val (.int sB), .val (.ref xA), .val (.ref xB), .val (.ref b62), .val (.ref b85), .unset, .unset, .unset] [(.int xb1), (.int xa1)])) _
                refine XS.icmpYes X102.here hx rfl (pc0 := 320) (pc' := 380) rfl (hb hby at_320) rfl (feq (hc182 : ¬ (xa1 = xb1))).2 (by decide) (by decide) ?_
                show Steps p.tables e below (T102.setTop (mkF m 380 #[.val (.long vs), .second, .val (.long vt_), .second, .val (.int vlens), .val (.int vssid), .val (.int vpick), .val (.int xa0), .val (.int xa1), .val (.int xa2), .val (.int xa3), .val (.int xa4), .val (.int xa5), .val (.int xb0), .val (.int xb1), .val (.int xb2), .val (.int xb3), .val (.int xb4), .val (.int xb5), .val (.int (5 : Int32)), .val (.int (Int32.ofNat nB)), .val (.int sA), .val (.int sB), .val (.ref xA), .val (.ref xB), .val (.ref b62), .val (.ref b85), .unset, .unset, .unset] [])) _
                refine XS.iconst X102.here hx rfl (hb hby at_380) ?_
                exact kt
              exact ⟨T102, _, X102, rfl, N102, fun t kt => pre193 t (by have q : (own_same (Int32.ofNat 5) (Int32.ofNat nB) sA sB xa0 xa1 xa2 xa3 xa4 xa5 xb0 xb1 xb2 xb3 xb4 xb5) = (0 : Int32) := by { rw [own_same]; exact if_neg (fun q => hc182 (q.2.2.2.1.resolve_left (by decide))) }; rw [q] at kt; exact kt)⟩
          ·
            have pre194 : ∀ t, Steps p.tables e below (T102.setTop (mkF m 381 #[.val (.long vs), .second, .val (.long vt_), .second, .val (.int vlens), .val (.int vssid), .val (.int vpick), .val (.int xa0), .val (.int xa1), .val (.int xa2), .val (.int xa3), .val (.int xa4), .val (.int xa5), .val (.int xb0), .val (.int xb1), .val (.int xb2), .val (.int xb3), .val (.int xb4), .val (.int xb5), .val (.int (5 : Int32)), .val (.int (Int32.ofNat nB)), .val (.int sA), .val (.int sB), .val (.ref xA), .val (.ref xB), .val (.ref b62), .val (.ref b85), .unset, .unset, .unset] [(.int (0 : Int32))])) t → Steps p.tables e below (s₁.setTop (entryFrame m #[(.long vs), (.long vt_), (.int vlens), (.int vssid), (.int vpick)] maxLocals)) t := by
              intro t kt
              refine pre179 t ?_
              show Steps p.tables e below (T102.setTop (mkF m 307 #[.val (.long vs), .second, .val (.long vt_), .second, .val (.int vlens), .val (.int vssid), .val (.int vpick), .val (.int xa0), .val (.int xa1), .val (.int xa2), .val (.int xa3), .val (.int xa4), .val (.int xa5), .val (.int xb0), .val (.int xb1), .val (.int xb2), .val (.int xb3), .val (.int xb4), .val (.int xb5), .val (.int (5 : Int32)), .val (.int (Int32.ofNat nB)), .val (.int sA), .val (.int sB), .val (.ref xA), .val (.ref xB), .val (.ref b62), .val (.ref b85), .unset, .unset, .unset] [(.int xb0), (.int xa0)])) _
              refine XS.icmpYes X102.here hx rfl (pc0 := 307) (pc' := 380) rfl (hb hby at_307) rfl (feq (hc180 : ¬ (xa0 = xb0))).2 (by decide) (by decide) ?_
              show Steps p.tables e below (T102.setTop (mkF m 380 #[.val (.long vs), .second, .val (.long vt_), .second, .val (.int vlens), .val (.int vssid), .val (.int vpick), .val (.int xa0), .val (.int xa1), .val (.int xa2), .val (.int xa3), .val (.int xa4), .val (.int xa5), .val (.int xb0), .val (.int xb1), .val (.int xb2), .val (.int xb3), .val (.int xb4), .val (.int xb5), .val (.int (5 : Int32)), .val (.int (Int32.ofNat nB)), .val (.int sA), .val (.int sB), .val (.ref xA), .val (.ref xB), .val (.ref b62), .val (.ref b85), .unset, .unset, .unset] [])) _
              refine XS.iconst X102.here hx rfl (hb hby at_380) ?_
              exact kt
            exact ⟨T102, _, X102, rfl, N102, fun t kt => pre194 t (by have q : (own_same (Int32.ofNat 5) (Int32.ofNat nB) sA sB xa0 xa1 xa2 xa3 xa4 xa5 xb0 xb1 xb2 xb3 xb4 xb5) = (0 : Int32) := by { rw [own_same]; exact if_neg (fun q => hc180 q.2.2.1) }; rw [q] at kt; exact kt)⟩
        ·
          have pre195 : ∀ t, Steps p.tables e below (T102.setTop (mkF m 381 #[.val (.long vs), .second, .val (.long vt_), .second, .val (.int vlens), .val (.int vssid), .val (.int vpick), .val (.int xa0), .val (.int xa1), .val (.int xa2), .val (.int xa3), .val (.int xa4), .val (.int xa5), .val (.int xb0), .val (.int xb1), .val (.int xb2), .val (.int xb3), .val (.int xb4), .val (.int xb5), .val (.int (5 : Int32)), .val (.int (Int32.ofNat nB)), .val (.int sA), .val (.int sB), .val (.ref xA), .val (.ref xB), .val (.ref b62), .val (.ref b85), .unset, .unset, .unset] [(.int (0 : Int32))])) t → Steps p.tables e below (s₁.setTop (entryFrame m #[(.long vs), (.long vt_), (.int vlens), (.int vssid), (.int vpick)] maxLocals)) t := by
            intro t kt
            refine pre177 t ?_
            show Steps p.tables e below (T102.setTop (mkF m 300 #[.val (.long vs), .second, .val (.long vt_), .second, .val (.int vlens), .val (.int vssid), .val (.int vpick), .val (.int xa0), .val (.int xa1), .val (.int xa2), .val (.int xa3), .val (.int xa4), .val (.int xa5), .val (.int xb0), .val (.int xb1), .val (.int xb2), .val (.int xb3), .val (.int xb4), .val (.int xb5), .val (.int (5 : Int32)), .val (.int (Int32.ofNat nB)), .val (.int sA), .val (.int sB), .val (.ref xA), .val (.ref xB), .val (.ref b62), .val (.ref b85), .unset, .unset, .unset] [(.int sB), (.int sA)])) _
            refine XS.icmpYes X102.here hx rfl (pc0 := 300) (pc' := 380) rfl (hb hby at_300) rfl (feq (hc178 : ¬ (sA = sB))).2 (by decide) (by decide) ?_
            show Steps p.tables e below (T102.setTop (mkF m 380 #[.val (.long vs), .second, .val (.long vt_), .second, .val (.int vlens), .val (.int vssid), .val (.int vpick), .val (.int xa0), .val (.int xa1), .val (.int xa2), .val (.int xa3), .val (.int xa4), .val (.int xa5), .val (.int xb0), .val (.int xb1), .val (.int xb2), .val (.int xb3), .val (.int xb4), .val (.int xb5), .val (.int (5 : Int32)), .val (.int (Int32.ofNat nB)), .val (.int sA), .val (.int sB), .val (.ref xA), .val (.ref xB), .val (.ref b62), .val (.ref b85), .unset, .unset, .unset] [])) _
            refine XS.iconst X102.here hx rfl (hb hby at_380) ?_
            exact kt
          exact ⟨T102, _, X102, rfl, N102, fun t kt => pre195 t (by have q : (own_same (Int32.ofNat 5) (Int32.ofNat nB) sA sB xa0 xa1 xa2 xa3 xa4 xa5 xb0 xb1 xb2 xb3 xb4 xb5) = (0 : Int32) := by { rw [own_same]; exact if_neg (fun q => hc178 q.2.1) }; rw [q] at kt; exact kt)⟩
      ·
        have pre196 : ∀ t, Steps p.tables e below (T102.setTop (mkF m 381 #[.val (.long vs), .second, .val (.long vt_), .second, .val (.int vlens), .val (.int vssid), .val (.int vpick), .val (.int xa0), .val (.int xa1), .val (.int xa2), .val (.int xa3), .val (.int xa4), .val (.int xa5), .val (.int xb0), .val (.int xb1), .val (.int xb2), .val (.int xb3), .val (.int xb4), .val (.int xb5), .val (.int (5 : Int32)), .val (.int (Int32.ofNat nB)), .val (.int sA), .val (.int sB), .val (.ref xA), .val (.ref xB), .val (.ref b62), .val (.ref b85), .unset, .unset, .unset] [(.int (0 : Int32))])) t → Steps p.tables e below (s₁.setTop (entryFrame m #[(.long vs), (.long vt_), (.int vlens), (.int vssid), (.int vpick)] maxLocals)) t := by
          intro t kt
          refine pre175 t ?_
          show Steps p.tables e below (T102.setTop (mkF m 293 #[.val (.long vs), .second, .val (.long vt_), .second, .val (.int vlens), .val (.int vssid), .val (.int vpick), .val (.int xa0), .val (.int xa1), .val (.int xa2), .val (.int xa3), .val (.int xa4), .val (.int xa5), .val (.int xb0), .val (.int xb1), .val (.int xb2), .val (.int xb3), .val (.int xb4), .val (.int xb5), .val (.int (5 : Int32)), .val (.int (Int32.ofNat nB)), .val (.int sA), .val (.int sB), .val (.ref xA), .val (.ref xB), .val (.ref b62), .val (.ref b85), .unset, .unset, .unset] [(.int (Int32.ofNat nB)), (.int (5 : Int32))])) _
          refine XS.icmpYes X102.here hx rfl (pc0 := 293) (pc' := 380) rfl (hb hby at_293) rfl (feq (hc176 : ¬ ((5 : Int32) = (Int32.ofNat nB)))).2 (by decide) (by decide) ?_
          show Steps p.tables e below (T102.setTop (mkF m 380 #[.val (.long vs), .second, .val (.long vt_), .second, .val (.int vlens), .val (.int vssid), .val (.int vpick), .val (.int xa0), .val (.int xa1), .val (.int xa2), .val (.int xa3), .val (.int xa4), .val (.int xa5), .val (.int xb0), .val (.int xb1), .val (.int xb2), .val (.int xb3), .val (.int xb4), .val (.int xb5), .val (.int (5 : Int32)), .val (.int (Int32.ofNat nB)), .val (.int sA), .val (.int sB), .val (.ref xA), .val (.ref xB), .val (.ref b62), .val (.ref b85), .unset, .unset, .unset] [])) _
          refine XS.iconst X102.here hx rfl (hb hby at_380) ?_
          exact kt
        exact ⟨T102, _, X102, rfl, N102, fun t kt => pre196 t (by have q : (own_same (Int32.ofNat 5) (Int32.ofNat nB) sA sB xa0 xa1 xa2 xa3 xa4 xa5 xb0 xb1 xb2 xb3 xb4 xb5) = (0 : Int32) := by { rw [own_same]; exact if_neg (fun q => hc176 q.1) }; rw [q] at kt; exact kt)⟩
    ·
      have pre116_6 : ∀ t, Steps p.tables e below (T102.setTop (mkF m 289 #[.val (.long vs), .second, .val (.long vt_), .second, .val (.int vlens), .val (.int vssid), .val (.int vpick), .val (.int xa0), .val (.int xa1), .val (.int xa2), .val (.int xa3), .val (.int xa4), .val (.int xa5), .val (.int xb0), .val (.int xb1), .val (.int xb2), .val (.int xb3), .val (.int xb4), .val (.int xb5), .val (.int (6 : Int32)), .val (.int (Int32.ofNat nB)), .val (.int sA), .val (.int sB), .val (.ref xA), .val (.ref xB), .val (.ref b62), .val (.ref b85), .unset, .unset, .unset] [])) t → Steps p.tables e below (s₁.setTop (entryFrame m #[(.long vs), (.long vt_), (.int vlens), (.int vssid), (.int vpick)] maxLocals)) t := pre115
      have pre197 : ∀ t, Steps p.tables e below (T102.setTop (mkF m 293 #[.val (.long vs), .second, .val (.long vt_), .second, .val (.int vlens), .val (.int vssid), .val (.int vpick), .val (.int xa0), .val (.int xa1), .val (.int xa2), .val (.int xa3), .val (.int xa4), .val (.int xa5), .val (.int xb0), .val (.int xb1), .val (.int xb2), .val (.int xb3), .val (.int xb4), .val (.int xb5), .val (.int (6 : Int32)), .val (.int (Int32.ofNat nB)), .val (.int sA), .val (.int sB), .val (.ref xA), .val (.ref xB), .val (.ref b62), .val (.ref b85), .unset, .unset, .unset] [(.int (Int32.ofNat nB)), (.int (6 : Int32))])) t → Steps p.tables e below (s₁.setTop (entryFrame m #[(.long vs), (.long vt_), (.int vlens), (.int vssid), (.int vpick)] maxLocals)) t := by
        intro t kt
        refine pre116_6 t ?_
        show Steps p.tables e below (T102.setTop (mkF m 289 #[.val (.long vs), .second, .val (.long vt_), .second, .val (.int vlens), .val (.int vssid), .val (.int vpick), .val (.int xa0), .val (.int xa1), .val (.int xa2), .val (.int xa3), .val (.int xa4), .val (.int xa5), .val (.int xb0), .val (.int xb1), .val (.int xb2), .val (.int xb3), .val (.int xb4), .val (.int xb5), .val (.int (6 : Int32)), .val (.int (Int32.ofNat nB)), .val (.int sA), .val (.int sB), .val (.ref xA), .val (.ref xB), .val (.ref b62), .val (.ref b85), .unset, .unset, .unset] [])) _
        refine XS.iload X102.here hx rfl (hb hby at_289) rfl ?_
        show Steps p.tables e below (T102.setTop (mkF m 291 #[.val (.long vs), .second, .val (.long vt_), .second, .val (.int vlens), .val (.int vssid), .val (.int vpick), .val (.int xa0), .val (.int xa1), .val (.int xa2), .val (.int xa3), .val (.int xa4), .val (.int xa5), .val (.int xb0), .val (.int xb1), .val (.int xb2), .val (.int xb3), .val (.int xb4), .val (.int xb5), .val (.int (6 : Int32)), .val (.int (Int32.ofNat nB)), .val (.int sA), .val (.int sB), .val (.ref xA), .val (.ref xB), .val (.ref b62), .val (.ref b85), .unset, .unset, .unset] [(.int (6 : Int32))])) _
        refine XS.iload X102.here hx rfl (hb hby at_291) rfl ?_
        exact kt
      by_cases hc198 : (6 : Int32) = (Int32.ofNat nB)
      ·
        have pre199 : ∀ t, Steps p.tables e below (T102.setTop (mkF m 300 #[.val (.long vs), .second, .val (.long vt_), .second, .val (.int vlens), .val (.int vssid), .val (.int vpick), .val (.int xa0), .val (.int xa1), .val (.int xa2), .val (.int xa3), .val (.int xa4), .val (.int xa5), .val (.int xb0), .val (.int xb1), .val (.int xb2), .val (.int xb3), .val (.int xb4), .val (.int xb5), .val (.int (6 : Int32)), .val (.int (Int32.ofNat nB)), .val (.int sA), .val (.int sB), .val (.ref xA), .val (.ref xB), .val (.ref b62), .val (.ref b85), .unset, .unset, .unset] [(.int sB), (.int sA)])) t → Steps p.tables e below (s₁.setTop (entryFrame m #[(.long vs), (.long vt_), (.int vlens), (.int vssid), (.int vpick)] maxLocals)) t := by
          intro t kt
          refine pre197 t ?_
          show Steps p.tables e below (T102.setTop (mkF m 293 #[.val (.long vs), .second, .val (.long vt_), .second, .val (.int vlens), .val (.int vssid), .val (.int vpick), .val (.int xa0), .val (.int xa1), .val (.int xa2), .val (.int xa3), .val (.int xa4), .val (.int xa5), .val (.int xb0), .val (.int xb1), .val (.int xb2), .val (.int xb3), .val (.int xb4), .val (.int xb5), .val (.int (6 : Int32)), .val (.int (Int32.ofNat nB)), .val (.int sA), .val (.int sB), .val (.ref xA), .val (.ref xB), .val (.ref b62), .val (.ref b85), .unset, .unset, .unset] [(.int (Int32.ofNat nB)), (.int (6 : Int32))])) _
          refine XS.icmpNo X102.here hx rfl (hb hby at_293) rfl (teq (hc198 : (6 : Int32) = (Int32.ofNat nB))).2 ?_
          show Steps p.tables e below (T102.setTop (mkF m 296 #[.val (.long vs), .second, .val (.long vt_), .second, .val (.int vlens), .val (.int vssid), .val (.int vpick), .val (.int xa0), .val (.int xa1), .val (.int xa2), .val (.int xa3), .val (.int xa4), .val (.int xa5), .val (.int xb0), .val (.int xb1), .val (.int xb2), .val (.int xb3), .val (.int xb4), .val (.int xb5), .val (.int (6 : Int32)), .val (.int (Int32.ofNat nB)), .val (.int sA), .val (.int sB), .val (.ref xA), .val (.ref xB), .val (.ref b62), .val (.ref b85), .unset, .unset, .unset] [])) _
          refine XS.iload X102.here hx rfl (hb hby at_296) rfl ?_
          show Steps p.tables e below (T102.setTop (mkF m 298 #[.val (.long vs), .second, .val (.long vt_), .second, .val (.int vlens), .val (.int vssid), .val (.int vpick), .val (.int xa0), .val (.int xa1), .val (.int xa2), .val (.int xa3), .val (.int xa4), .val (.int xa5), .val (.int xb0), .val (.int xb1), .val (.int xb2), .val (.int xb3), .val (.int xb4), .val (.int xb5), .val (.int (6 : Int32)), .val (.int (Int32.ofNat nB)), .val (.int sA), .val (.int sB), .val (.ref xA), .val (.ref xB), .val (.ref b62), .val (.ref b85), .unset, .unset, .unset] [(.int sA)])) _
          refine XS.iload X102.here hx rfl (hb hby at_298) rfl ?_
          exact kt
        by_cases hc200 : sA = sB
        ·
          have pre201 : ∀ t, Steps p.tables e below (T102.setTop (mkF m 307 #[.val (.long vs), .second, .val (.long vt_), .second, .val (.int vlens), .val (.int vssid), .val (.int vpick), .val (.int xa0), .val (.int xa1), .val (.int xa2), .val (.int xa3), .val (.int xa4), .val (.int xa5), .val (.int xb0), .val (.int xb1), .val (.int xb2), .val (.int xb3), .val (.int xb4), .val (.int xb5), .val (.int (6 : Int32)), .val (.int (Int32.ofNat nB)), .val (.int sA), .val (.int sB), .val (.ref xA), .val (.ref xB), .val (.ref b62), .val (.ref b85), .unset, .unset, .unset] [(.int xb0), (.int xa0)])) t → Steps p.tables e below (s₁.setTop (entryFrame m #[(.long vs), (.long vt_), (.int vlens), (.int vssid), (.int vpick)] maxLocals)) t := by
            intro t kt
            refine pre199 t ?_
            show Steps p.tables e below (T102.setTop (mkF m 300 #[.val (.long vs), .second, .val (.long vt_), .second, .val (.int vlens), .val (.int vssid), .val (.int vpick), .val (.int xa0), .val (.int xa1), .val (.int xa2), .val (.int xa3), .val (.int xa4), .val (.int xa5), .val (.int xb0), .val (.int xb1), .val (.int xb2), .val (.int xb3), .val (.int xb4), .val (.int xb5), .val (.int (6 : Int32)), .val (.int (Int32.ofNat nB)), .val (.int sA), .val (.int sB), .val (.ref xA), .val (.ref xB), .val (.ref b62), .val (.ref b85), .unset, .unset, .unset] [(.int sB), (.int sA)])) _
            refine XS.icmpNo X102.here hx rfl (hb hby at_300) rfl (teq (hc200 : sA = sB)).2 ?_
            show Steps p.tables e below (T102.setTop (mkF m 303 #[.val (.long vs), .second, .val (.long vt_), .second, .val (.int vlens), .val (.int vssid), .val (.int vpick), .val (.int xa0), .val (.int xa1), .val (.int xa2), .val (.int xa3), .val (.int xa4), .val (.int xa5), .val (.int xb0), .val (.int xb1), .val (.int xb2), .val (.int xb3), .val (.int xb4), .val (.int xb5), .val (.int (6 : Int32)), .val (.int (Int32.ofNat nB)), .val (.int sA), .val (.int sB), .val (.ref xA), .val (.ref xB), .val (.ref b62), .val (.ref b85), .unset, .unset, .unset] [])) _
            refine XS.iload X102.here hx rfl (hb hby at_303) rfl ?_
            show Steps p.tables e below (T102.setTop (mkF m 305 #[.val (.long vs), .second, .val (.long vt_), .second, .val (.int vlens), .val (.int vssid), .val (.int vpick), .val (.int xa0), .val (.int xa1), .val (.int xa2), .val (.int xa3), .val (.int xa4), .val (.int xa5), .val (.int xb0), .val (.int xb1), .val (.int xb2), .val (.int xb3), .val (.int xb4), .val (.int xb5), .val (.int (6 : Int32)), .val (.int (Int32.ofNat nB)), .val (.int sA), .val (.int sB), .val (.ref xA), .val (.ref xB), .val (.ref b62), .val (.ref b85), .unset, .unset, .unset] [(.int xa0)])) _
            refine XS.iload X102.here hx rfl (hb hby at_305) rfl ?_
            exact kt
          by_cases hc202 : xa0 = xb0
          ·
            have pre203 : ∀ t, Steps p.tables e below (T102.setTop (mkF m 320 #[.val (.long vs), .second, .val (.long vt_), .second, .val (.int vlens), .val (.int vssid), .val (.int vpick), .val (.int xa0), .val (.int xa1), .val (.int xa2), .val (.int xa3), .val (.int xa4), .val (.int xa5), .val (.int xb0), .val (.int xb1), .val (.int xb2), .val (.int xb3), .val (.int xb4), .val (.int xb5), .val (.int (6 : Int32)), .val (.int (Int32.ofNat nB)), .val (.int sA), .val (.int sB), .val (.ref xA), .val (.ref xB), .val (.ref b62), .val (.ref b85), .unset, .unset, .unset] [(.int xb1), (.int xa1)])) t → Steps p.tables e below (s₁.setTop (entryFrame m #[(.long vs), (.long vt_), (.int vlens), (.int vssid), (.int vpick)] maxLocals)) t := by
              intro t kt
              refine pre201 t ?_
              show Steps p.tables e below (T102.setTop (mkF m 307 #[.val (.long vs), .second, .val (.long vt_), .second, .val (.int vlens), .val (.int vssid), .val (.int vpick), .val (.int xa0), .val (.int xa1), .val (.int xa2), .val (.int xa3), .val (.int xa4), .val (.int xa5), .val (.int xb0), .val (.int xb1), .val (.int xb2), .val (.int xb3), .val (.int xb4), .val (.int xb5), .val (.int (6 : Int32)), .val (.int (Int32.ofNat nB)), .val (.int sA), .val (.int sB), .val (.ref xA), .val (.ref xB), .val (.ref b62), .val (.ref b85), .unset, .unset, .unset] [(.int xb0), (.int xa0)])) _
              refine XS.icmpNo X102.here hx rfl (hb hby at_307) rfl (teq (hc202 : xa0 = xb0)).2 ?_
              show Steps p.tables e below (T102.setTop (mkF m 310 #[.val (.long vs), .second, .val (.long vt_), .second, .val (.int vlens), .val (.int vssid), .val (.int vpick), .val (.int xa0), .val (.int xa1), .val (.int xa2), .val (.int xa3), .val (.int xa4), .val (.int xa5), .val (.int xb0), .val (.int xb1), .val (.int xb2), .val (.int xb3), .val (.int xb4), .val (.int xb5), .val (.int (6 : Int32)), .val (.int (Int32.ofNat nB)), .val (.int sA), .val (.int sB), .val (.ref xA), .val (.ref xB), .val (.ref b62), .val (.ref b85), .unset, .unset, .unset] [])) _
              refine XS.iload X102.here hx rfl (hb hby at_310) rfl ?_
              show Steps p.tables e below (T102.setTop (mkF m 312 #[.val (.long vs), .second, .val (.long vt_), .second, .val (.int vlens), .val (.int vssid), .val (.int vpick), .val (.int xa0), .val (.int xa1), .val (.int xa2), .val (.int xa3), .val (.int xa4), .val (.int xa5), .val (.int xb0), .val (.int xb1), .val (.int xb2), .val (.int xb3), .val (.int xb4), .val (.int xb5), .val (.int (6 : Int32)), .val (.int (Int32.ofNat nB)), .val (.int sA), .val (.int sB), .val (.ref xA), .val (.ref xB), .val (.ref b62), .val (.ref b85), .unset, .unset, .unset] [(.int (6 : Int32))])) _
              refine XS.iconst X102.here hx rfl (hb hby at_312) ?_
              show Steps p.tables e below (T102.setTop (mkF m 313 #[.val (.long vs), .second, .val (.long vt_), .second, .val (.int vlens), .val (.int vssid), .val (.int vpick), .val (.int xa0), .val (.int xa1), .val (.int xa2), .val (.int xa3), .val (.int xa4), .val (.int xa5), .val (.int xb0), .val (.int xb1), .val (.int xb2), .val (.int xb3), .val (.int xb4), .val (.int xb5), .val (.int (6 : Int32)), .val (.int (Int32.ofNat nB)), .val (.int sA), .val (.int sB), .val (.ref xA), .val (.ref xB), .val (.ref b62), .val (.ref b85), .unset, .unset, .unset] [(.int (2 : Int32)), (.int (6 : Int32))])) _
              refine XS.icmpNo X102.here hx rfl (hb hby at_313) rfl (flt ((by decide) : ¬ ((6 : Int32) < (2 : Int32)))).1 ?_
              show Steps p.tables e below (T102.setTop (mkF m 316 #[.val (.long vs), .second, .val (.long vt_), .second, .val (.int vlens), .val (.int vssid), .val (.int vpick), .val (.int xa0), .val (.int xa1), .val (.int xa2), .val (.int xa3), .val (.int xa4), .val (.int xa5), .val (.int xb0), .val (.int xb1), .val (.int xb2), .val (.int xb3), .val (.int xb4), .val (.int xb5), .val (.int (6 : Int32)), .val (.int (Int32.ofNat nB)), .val (.int sA), .val (.int sB), .val (.ref xA), .val (.ref xB), .val (.ref b62), .val (.ref b85), .unset, .unset, .unset] [])) _
              refine XS.iload X102.here hx rfl (hb hby at_316) rfl ?_
              show Steps p.tables e below (T102.setTop (mkF m 318 #[.val (.long vs), .second, .val (.long vt_), .second, .val (.int vlens), .val (.int vssid), .val (.int vpick), .val (.int xa0), .val (.int xa1), .val (.int xa2), .val (.int xa3), .val (.int xa4), .val (.int xa5), .val (.int xb0), .val (.int xb1), .val (.int xb2), .val (.int xb3), .val (.int xb4), .val (.int xb5), .val (.int (6 : Int32)), .val (.int (Int32.ofNat nB)), .val (.int sA), .val (.int sB), .val (.ref xA), .val (.ref xB), .val (.ref b62), .val (.ref b85), .unset, .unset, .unset] [(.int xa1)])) _
              refine XS.iload X102.here hx rfl (hb hby at_318) rfl ?_
              exact kt
            by_cases hc204 : xa1 = xb1
            ·
              have pre205 : ∀ t, Steps p.tables e below (T102.setTop (mkF m 333 #[.val (.long vs), .second, .val (.long vt_), .second, .val (.int vlens), .val (.int vssid), .val (.int vpick), .val (.int xa0), .val (.int xa1), .val (.int xa2), .val (.int xa3), .val (.int xa4), .val (.int xa5), .val (.int xb0), .val (.int xb1), .val (.int xb2), .val (.int xb3), .val (.int xb4), .val (.int xb5), .val (.int (6 : Int32)), .val (.int (Int32.ofNat nB)), .val (.int sA), .val (.int sB), .val (.ref xA), .val (.ref xB), .val (.ref b62), .val (.ref b85), .unset, .unset, .unset] [(.int xb2), (.int xa2)])) t → Steps p.tables e below (s₁.setTop (entryFrame m #[(.long vs), (.long vt_), (.int vlens), (.int vssid), (.int vpick)] maxLocals)) t := by
                intro t kt
                refine pre203 t ?_
                show Steps p.tables e below (T102.setTop (mkF m 320 #[.val (.long vs), .second, .val (.long vt_), .second, .val (.int vlens), .val (.int vssid), .val (.int vpick), .val (.int xa0), .val (.int xa1), .val (.int xa2), .val (.int xa3), .val (.int xa4), .val (.int xa5), .val (.int xb0), .val (.int xb1), .val (.int xb2), .val (.int xb3), .val (.int xb4), .val (.int xb5), .val (.int (6 : Int32)), .val (.int (Int32.ofNat nB)), .val (.int sA), .val (.int sB), .val (.ref xA), .val (.ref xB), .val (.ref b62), .val (.ref b85), .unset, .unset, .unset] [(.int xb1), (.int xa1)])) _
                refine XS.icmpNo X102.here hx rfl (hb hby at_320) rfl (teq (hc204 : xa1 = xb1)).2 ?_
                show Steps p.tables e below (T102.setTop (mkF m 323 #[.val (.long vs), .second, .val (.long vt_), .second, .val (.int vlens), .val (.int vssid), .val (.int vpick), .val (.int xa0), .val (.int xa1), .val (.int xa2), .val (.int xa3), .val (.int xa4), .val (.int xa5), .val (.int xb0), .val (.int xb1), .val (.int xb2), .val (.int xb3), .val (.int xb4), .val (.int xb5), .val (.int (6 : Int32)), .val (.int (Int32.ofNat nB)), .val (.int sA), .val (.int sB), .val (.ref xA), .val (.ref xB), .val (.ref b62), .val (.ref b85), .unset, .unset, .unset] [])) _
                refine XS.iload X102.here hx rfl (hb hby at_323) rfl ?_
                show Steps p.tables e below (T102.setTop (mkF m 325 #[.val (.long vs), .second, .val (.long vt_), .second, .val (.int vlens), .val (.int vssid), .val (.int vpick), .val (.int xa0), .val (.int xa1), .val (.int xa2), .val (.int xa3), .val (.int xa4), .val (.int xa5), .val (.int xb0), .val (.int xb1), .val (.int xb2), .val (.int xb3), .val (.int xb4), .val (.int xb5), .val (.int (6 : Int32)), .val (.int (Int32.ofNat nB)), .val (.int sA), .val (.int sB), .val (.ref xA), .val (.ref xB), .val (.ref b62), .val (.ref b85), .unset, .unset, .unset] [(.int (6 : Int32))])) _
                refine XS.iconst X102.here hx rfl (hb hby at_325) ?_
                show Steps p.tables e below (T102.setTop (mkF m 326 #[.val (.long vs), .second, .val (.long vt_), .second, .val (.int vlens), .val (.int vssid), .val (.int vpick), .val (.int xa0), .val (.int xa1), .val (.int xa2), .val (.int xa3), .val (.int xa4), .val (.int xa5), .val (.int xb0), .val (.int xb1), .val (.int xb2), .val (.int xb3), .val (.int xb4), .val (.int xb5), .val (.int (6 : Int32)), .val (.int (Int32.ofNat nB)), .val (.int sA), .val (.int sB), .val (.ref xA), .val (.ref xB), .val (.ref b62), .val (.ref b85), .unset, .unset, .unset] [(.int (3 : Int32)), (.int (6 : Int32))])) _
                refine XS.icmpNo X102.here hx rfl (hb hby at_326) rfl (flt ((by decide) : ¬ ((6 : Int32) < (3 : Int32)))).1 ?_
                show Steps p.tables e below (T102.setTop (mkF m 329 #[.val (.long vs), .second, .val (.long vt_), .second, .val (.int vlens), .val (.int vssid), .val (.int vpick), .val (.int xa0), .val (.int xa1), .val (.int xa2), .val (.int xa3), .val (.int xa4), .val (.int xa5), .val (.int xb0), .val (.int xb1), .val (.int xb2), .val (.int xb3), .val (.int xb4), .val (.int xb5), .val (.int (6 : Int32)), .val (.int (Int32.ofNat nB)), .val (.int sA), .val (.int sB), .val (.ref xA), .val (.ref xB), .val (.ref b62), .val (.ref b85), .unset, .unset, .unset] [])) _
                refine XS.iload X102.here hx rfl (hb hby at_329) rfl ?_
                show Steps p.tables e below (T102.setTop (mkF m 331 #[.val (.long vs), .second, .val (.long vt_), .second, .val (.int vlens), .val (.int vssid), .val (.int vpick), .val (.int xa0), .val (.int xa1), .val (.int xa2), .val (.int xa3), .val (.int xa4), .val (.int xa5), .val (.int xb0), .val (.int xb1), .val (.int xb2), .val (.int xb3), .val (.int xb4), .val (.int xb5), .val (.int (6 : Int32)), .val (.int (Int32.ofNat nB)), .val (.int sA), .val (.int sB), .val (.ref xA), .val (.ref xB), .val (.ref b62), .val (.ref b85), .unset, .unset, .unset] [(.int xa2)])) _
                refine XS.iload X102.here hx rfl (hb hby at_331) rfl ?_
                exact kt
              by_cases hc206 : xa2 = xb2
              ·
                have pre207 : ∀ t, Steps p.tables e below (T102.setTop (mkF m 346 #[.val (.long vs), .second, .val (.long vt_), .second, .val (.int vlens), .val (.int vssid), .val (.int vpick), .val (.int xa0), .val (.int xa1), .val (.int xa2), .val (.int xa3), .val (.int xa4), .val (.int xa5), .val (.int xb0), .val (.int xb1), .val (.int xb2), .val (.int xb3), .val (.int xb4), .val (.int xb5), .val (.int (6 : Int32)), .val (.int (Int32.ofNat nB)), .val (.int sA), .val (.int sB), .val (.ref xA), .val (.ref xB), .val (.ref b62), .val (.ref b85), .unset, .unset, .unset] [(.int xb3), (.int xa3)])) t → Steps p.tables e below (s₁.setTop (entryFrame m #[(.long vs), (.long vt_), (.int vlens), (.int vssid), (.int vpick)] maxLocals)) t := by
                  intro t kt
                  refine pre205 t ?_
                  show Steps p.tables e below (T102.setTop (mkF m 333 #[.val (.long vs), .second, .val (.long vt_), .second, .val (.int vlens), .val (.int vssid), .val (.int vpick), .val (.int xa0), .val (.int xa1), .val (.int xa2), .val (.int xa3), .val (.int xa4), .val (.int xa5), .val (.int xb0), .val (.int xb1), .val (.int xb2), .val (.int xb3), .val (.int xb4), .val (.int xb5), .val (.int (6 : Int32)), .val (.int (Int32.ofNat nB)), .val (.int sA), .val (.int sB), .val (.ref xA), .val (.ref xB), .val (.ref b62), .val (.ref b85), .unset, .unset, .unset] [(.int xb2), (.int xa2)])) _
                  refine XS.icmpNo X102.here hx rfl (hb hby at_333) rfl (teq (hc206 : xa2 = xb2)).2 ?_
                  show Steps p.tables e below (T102.setTop (mkF m 336 #[.val (.long vs), .second, .val (.long vt_), .second, .val (.int vlens), .val (.int vssid), .val (.int vpick), .val (.int xa0), .val (.int xa1), .val (.int xa2), .val (.int xa3), .val (.int xa4), .val (.int xa5), .val (.int xb0), .val (.int xb1), .val (.int xb2), .val (.int xb3), .val (.int xb4), .val (.int xb5), .val (.int (6 : Int32)), .val (.int (Int32.ofNat nB)), .val (.int sA), .val (.int sB), .val (.ref xA), .val (.ref xB), .val (.ref b62), .val (.ref b85), .unset, .unset, .unset] [])) _
                  refine XS.iload X102.here hx rfl (hb hby at_336) rfl ?_
                  show Steps p.tables e below (T102.setTop (mkF m 338 #[.val (.long vs), .second, .val (.long vt_), .second, .val (.int vlens), .val (.int vssid), .val (.int vpick), .val (.int xa0), .val (.int xa1), .val (.int xa2), .val (.int xa3), .val (.int xa4), .val (.int xa5), .val (.int xb0), .val (.int xb1), .val (.int xb2), .val (.int xb3), .val (.int xb4), .val (.int xb5), .val (.int (6 : Int32)), .val (.int (Int32.ofNat nB)), .val (.int sA), .val (.int sB), .val (.ref xA), .val (.ref xB), .val (.ref b62), .val (.ref b85), .unset, .unset, .unset] [(.int (6 : Int32))])) _
                  refine XS.iconst X102.here hx rfl (hb hby at_338) ?_
                  show Steps p.tables e below (T102.setTop (mkF m 339 #[.val (.long vs), .second, .val (.long vt_), .second, .val (.int vlens), .val (.int vssid), .val (.int vpick), .val (.int xa0), .val (.int xa1), .val (.int xa2), .val (.int xa3), .val (.int xa4), .val (.int xa5), .val (.int xb0), .val (.int xb1), .val (.int xb2), .val (.int xb3), .val (.int xb4), .val (.int xb5), .val (.int (6 : Int32)), .val (.int (Int32.ofNat nB)), .val (.int sA), .val (.int sB), .val (.ref xA), .val (.ref xB), .val (.ref b62), .val (.ref b85), .unset, .unset, .unset] [(.int (4 : Int32)), (.int (6 : Int32))])) _
                  refine XS.icmpNo X102.here hx rfl (hb hby at_339) rfl (flt ((by decide) : ¬ ((6 : Int32) < (4 : Int32)))).1 ?_
                  show Steps p.tables e below (T102.setTop (mkF m 342 #[.val (.long vs), .second, .val (.long vt_), .second, .val (.int vlens), .val (.int vssid), .val (.int vpick), .val (.int xa0), .val (.int xa1), .val (.int xa2), .val (.int xa3), .val (.int xa4), .val (.int xa5), .val (.int xb0), .val (.int xb1), .val (.int xb2), .val (.int xb3), .val (.int xb4), .val (.int xb5), .val (.int (6 : Int32)), .val (.int (Int32.ofNat nB)), .val (.int sA), .val (.int sB), .val (.ref xA), .val (.ref xB), .val (.ref b62), .val (.ref b85), .unset, .unset, .unset] [])) _
                  refine XS.iload X102.here hx rfl (hb hby at_342) rfl ?_
                  show Steps p.tables e below (T102.setTop (mkF m 344 #[.val (.long vs), .second, .val (.long vt_), .second, .val (.int vlens), .val (.int vssid), .val (.int vpick), .val (.int xa0), .val (.int xa1), .val (.int xa2), .val (.int xa3), .val (.int xa4), .val (.int xa5), .val (.int xb0), .val (.int xb1), .val (.int xb2), .val (.int xb3), .val (.int xb4), .val (.int xb5), .val (.int (6 : Int32)), .val (.int (Int32.ofNat nB)), .val (.int sA), .val (.int sB), .val (.ref xA), .val (.ref xB), .val (.ref b62), .val (.ref b85), .unset, .unset, .unset] [(.int xa3)])) _
                  refine XS.iload X102.here hx rfl (hb hby at_344) rfl ?_
                  exact kt
                by_cases hc208 : xa3 = xb3
                ·
                  have pre209 : ∀ t, Steps p.tables e below (T102.setTop (mkF m 359 #[.val (.long vs), .second, .val (.long vt_), .second, .val (.int vlens), .val (.int vssid), .val (.int vpick), .val (.int xa0), .val (.int xa1), .val (.int xa2), .val (.int xa3), .val (.int xa4), .val (.int xa5), .val (.int xb0), .val (.int xb1), .val (.int xb2), .val (.int xb3), .val (.int xb4), .val (.int xb5), .val (.int (6 : Int32)), .val (.int (Int32.ofNat nB)), .val (.int sA), .val (.int sB), .val (.ref xA), .val (.ref xB), .val (.ref b62), .val (.ref b85), .unset, .unset, .unset] [(.int xb4), (.int xa4)])) t → Steps p.tables e below (s₁.setTop (entryFrame m #[(.long vs), (.long vt_), (.int vlens), (.int vssid), (.int vpick)] maxLocals)) t := by
                    intro t kt
                    refine pre207 t ?_
                    show Steps p.tables e below (T102.setTop (mkF m 346 #[.val (.long vs), .second, .val (.long vt_), .second, .val (.int vlens), .val (.int vssid), .val (.int vpick), .val (.int xa0), .val (.int xa1), .val (.int xa2), .val (.int xa3), .val (.int xa4), .val (.int xa5), .val (.int xb0), .val (.int xb1), .val (.int xb2), .val (.int xb3), .val (.int xb4), .val (.int xb5), .val (.int (6 : Int32)), .val (.int (Int32.ofNat nB)), .val (.int sA), .val (.int sB), .val (.ref xA), .val (.ref xB), .val (.ref b62), .val (.ref b85), .unset, .unset, .unset] [(.int xb3), (.int xa3)])) _
                    refine XS.icmpNo X102.here hx rfl (hb hby at_346) rfl (teq (hc208 : xa3 = xb3)).2 ?_
                    show Steps p.tables e below (T102.setTop (mkF m 349 #[.val (.long vs), .second, .val (.long vt_), .second, .val (.int vlens), .val (.int vssid), .val (.int vpick), .val (.int xa0), .val (.int xa1), .val (.int xa2), .val (.int xa3), .val (.int xa4), .val (.int xa5), .val (.int xb0), .val (.int xb1), .val (.int xb2), .val (.int xb3), .val (.int xb4), .val (.int xb5), .val (.int (6 : Int32)), .val (.int (Int32.ofNat nB)), .val (.int sA), .val (.int sB), .val (.ref xA), .val (.ref xB), .val (.ref b62), .val (.ref b85), .unset, .unset, .unset] [])) _
                    refine XS.iload X102.here hx rfl (hb hby at_349) rfl ?_
                    show Steps p.tables e below (T102.setTop (mkF m 351 #[.val (.long vs), .second, .val (.long vt_), .second, .val (.int vlens), .val (.int vssid), .val (.int vpick), .val (.int xa0), .val (.int xa1), .val (.int xa2), .val (.int xa3), .val (.int xa4), .val (.int xa5), .val (.int xb0), .val (.int xb1), .val (.int xb2), .val (.int xb3), .val (.int xb4), .val (.int xb5), .val (.int (6 : Int32)), .val (.int (Int32.ofNat nB)), .val (.int sA), .val (.int sB), .val (.ref xA), .val (.ref xB), .val (.ref b62), .val (.ref b85), .unset, .unset, .unset] [(.int (6 : Int32))])) _
                    refine XS.iconst X102.here hx rfl (hb hby at_351) ?_
                    show Steps p.tables e below (T102.setTop (mkF m 352 #[.val (.long vs), .second, .val (.long vt_), .second, .val (.int vlens), .val (.int vssid), .val (.int vpick), .val (.int xa0), .val (.int xa1), .val (.int xa2), .val (.int xa3), .val (.int xa4), .val (.int xa5), .val (.int xb0), .val (.int xb1), .val (.int xb2), .val (.int xb3), .val (.int xb4), .val (.int xb5), .val (.int (6 : Int32)), .val (.int (Int32.ofNat nB)), .val (.int sA), .val (.int sB), .val (.ref xA), .val (.ref xB), .val (.ref b62), .val (.ref b85), .unset, .unset, .unset] [(.int (5 : Int32)), (.int (6 : Int32))])) _
                    refine XS.icmpNo X102.here hx rfl (hb hby at_352) rfl (flt ((by decide) : ¬ ((6 : Int32) < (5 : Int32)))).1 ?_
                    show Steps p.tables e below (T102.setTop (mkF m 355 #[.val (.long vs), .second, .val (.long vt_), .second, .val (.int vlens), .val (.int vssid), .val (.int vpick), .val (.int xa0), .val (.int xa1), .val (.int xa2), .val (.int xa3), .val (.int xa4), .val (.int xa5), .val (.int xb0), .val (.int xb1), .val (.int xb2), .val (.int xb3), .val (.int xb4), .val (.int xb5), .val (.int (6 : Int32)), .val (.int (Int32.ofNat nB)), .val (.int sA), .val (.int sB), .val (.ref xA), .val (.ref xB), .val (.ref b62), .val (.ref b85), .unset, .unset, .unset] [])) _
                    refine XS.iload X102.here hx rfl (hb hby at_355) rfl ?_
                    show Steps p.tables e below (T102.setTop (mkF m 357 #[.val (.long vs), .second, .val (.long vt_), .second, .val (.int vlens), .val (.int vssid), .val (.int vpick), .val (.int xa0), .val (.int xa1), .val (.int xa2), .val (.int xa3), .val (.int xa4), .val (.int xa5), .val (.int xb0), .val (.int xb1), .val (.int xb2), .val (.int xb3), .val (.int xb4), .val (.int xb5), .val (.int (6 : Int32)), .val (.int (Int32.ofNat nB)), .val (.int sA), .val (.int sB), .val (.ref xA), .val (.ref xB), .val (.ref b62), .val (.ref b85), .unset, .unset, .unset] [(.int xa4)])) _
                    refine XS.iload X102.here hx rfl (hb hby at_357) rfl ?_
                    exact kt
                  by_cases hc210 : xa4 = xb4
                  ·
                    have pre211 : ∀ t, Steps p.tables e below (T102.setTop (mkF m 373 #[.val (.long vs), .second, .val (.long vt_), .second, .val (.int vlens), .val (.int vssid), .val (.int vpick), .val (.int xa0), .val (.int xa1), .val (.int xa2), .val (.int xa3), .val (.int xa4), .val (.int xa5), .val (.int xb0), .val (.int xb1), .val (.int xb2), .val (.int xb3), .val (.int xb4), .val (.int xb5), .val (.int (6 : Int32)), .val (.int (Int32.ofNat nB)), .val (.int sA), .val (.int sB), .val (.ref xA), .val (.ref xB), .val (.ref b62), .val (.ref b85), .unset, .unset, .unset] [(.int xb5), (.int xa5)])) t → Steps p.tables e below (s₁.setTop (entryFrame m #[(.long vs), (.long vt_), (.int vlens), (.int vssid), (.int vpick)] maxLocals)) t := by
                      intro t kt
                      refine pre209 t ?_
                      show Steps p.tables e below (T102.setTop (mkF m 359 #[.val (.long vs), .second, .val (.long vt_), .second, .val (.int vlens), .val (.int vssid), .val (.int vpick), .val (.int xa0), .val (.int xa1), .val (.int xa2), .val (.int xa3), .val (.int xa4), .val (.int xa5), .val (.int xb0), .val (.int xb1), .val (.int xb2), .val (.int xb3), .val (.int xb4), .val (.int xb5), .val (.int (6 : Int32)), .val (.int (Int32.ofNat nB)), .val (.int sA), .val (.int sB), .val (.ref xA), .val (.ref xB), .val (.ref b62), .val (.ref b85), .unset, .unset, .unset] [(.int xb4), (.int xa4)])) _
                      refine XS.icmpNo X102.here hx rfl (hb hby at_359) rfl (teq (hc210 : xa4 = xb4)).2 ?_
                      show Steps p.tables e below (T102.setTop (mkF m 362 #[.val (.long vs), .second, .val (.long vt_), .second, .val (.int vlens), .val (.int vssid), .val (.int vpick), .val (.int xa0), .val (.int xa1), .val (.int xa2), .val (.int xa3), .val (.int xa4), .val (.int xa5), .val (.int xb0), .val (.int xb1), .val (.int xb2), .val (.int xb3), .val (.int xb4), .val (.int xb5), .val (.int (6 : Int32)), .val (.int (Int32.ofNat nB)), .val (.int sA), .val (.int sB), .val (.ref xA), .val (.ref xB), .val (.ref b62), .val (.ref b85), .unset, .unset, .unset] [])) _
                      refine XS.iload X102.here hx rfl (hb hby at_362) rfl ?_
                      show Steps p.tables e below (T102.setTop (mkF m 364 #[.val (.long vs), .second, .val (.long vt_), .second, .val (.int vlens), .val (.int vssid), .val (.int vpick), .val (.int xa0), .val (.int xa1), .val (.int xa2), .val (.int xa3), .val (.int xa4), .val (.int xa5), .val (.int xb0), .val (.int xb1), .val (.int xb2), .val (.int xb3), .val (.int xb4), .val (.int xb5), .val (.int (6 : Int32)), .val (.int (Int32.ofNat nB)), .val (.int sA), .val (.int sB), .val (.ref xA), .val (.ref xB), .val (.ref b62), .val (.ref b85), .unset, .unset, .unset] [(.int (6 : Int32))])) _
                      refine XS.bipush X102.here hx rfl (hb hby at_364) ?_
                      show Steps p.tables e below (T102.setTop (mkF m 366 #[.val (.long vs), .second, .val (.long vt_), .second, .val (.int vlens), .val (.int vssid), .val (.int vpick), .val (.int xa0), .val (.int xa1), .val (.int xa2), .val (.int xa3), .val (.int xa4), .val (.int xa5), .val (.int xb0), .val (.int xb1), .val (.int xb2), .val (.int xb3), .val (.int xb4), .val (.int xb5), .val (.int (6 : Int32)), .val (.int (Int32.ofNat nB)), .val (.int sA), .val (.int sB), .val (.ref xA), .val (.ref xB), .val (.ref b62), .val (.ref b85), .unset, .unset, .unset] [(.int (6 : Int32)), (.int (6 : Int32))])) _
                      refine XS.icmpNo X102.here hx rfl (hb hby at_366) rfl (flt ((by decide) : ¬ ((6 : Int32) < (6 : Int32)))).1 ?_
                      show Steps p.tables e below (T102.setTop (mkF m 369 #[.val (.long vs), .second, .val (.long vt_), .second, .val (.int vlens), .val (.int vssid), .val (.int vpick), .val (.int xa0), .val (.int xa1), .val (.int xa2), .val (.int xa3), .val (.int xa4), .val (.int xa5), .val (.int xb0), .val (.int xb1), .val (.int xb2), .val (.int xb3), .val (.int xb4), .val (.int xb5), .val (.int (6 : Int32)), .val (.int (Int32.ofNat nB)), .val (.int sA), .val (.int sB), .val (.ref xA), .val (.ref xB), .val (.ref b62), .val (.ref b85), .unset, .unset, .unset] [])) _
                      refine XS.iload X102.here hx rfl (hb hby at_369) rfl ?_
                      show Steps p.tables e below (T102.setTop (mkF m 371 #[.val (.long vs), .second, .val (.long vt_), .second, .val (.int vlens), .val (.int vssid), .val (.int vpick), .val (.int xa0), .val (.int xa1), .val (.int xa2), .val (.int xa3), .val (.int xa4), .val (.int xa5), .val (.int xb0), .val (.int xb1), .val (.int xb2), .val (.int xb3), .val (.int xb4), .val (.int xb5), .val (.int (6 : Int32)), .val (.int (Int32.ofNat nB)), .val (.int sA), .val (.int sB), .val (.ref xA), .val (.ref xB), .val (.ref b62), .val (.ref b85), .unset, .unset, .unset] [(.int xa5)])) _
                      refine XS.iload X102.here hx rfl (hb hby at_371) rfl ?_
                      exact kt
                    by_cases hc212 : xa5 = xb5
                    ·
                      have pre213 : ∀ t, Steps p.tables e below (T102.setTop (mkF m 381 #[.val (.long vs), .second, .val (.long vt_), .second, .val (.int vlens), .val (.int vssid), .val (.int vpick), .val (.int xa0), .val (.int xa1), .val (.int xa2), .val (.int xa3), .val (.int xa4), .val (.int xa5), .val (.int xb0), .val (.int xb1), .val (.int xb2), .val (.int xb3), .val (.int xb4), .val (.int xb5), .val (.int (6 : Int32)), .val (.int (Int32.ofNat nB)), .val (.int sA), .val (.int sB), .val (.ref xA), .val (.ref xB), .val (.ref b62), .val (.ref b85), .unset, .unset, .unset] [(.int (1 : Int32))])) t → Steps p.tables e below (s₁.setTop (entryFrame m #[(.long vs), (.long vt_), (.int vlens), (.int vssid), (.int vpick)] maxLocals)) t := by
                        intro t kt
                        refine pre211 t ?_
                        show Steps p.tables e below (T102.setTop (mkF m 373 #[.val (.long vs), .second, .val (.long vt_), .second, .val (.int vlens), .val (.int vssid), .val (.int vpick), .val (.int xa0), .val (.int xa1), .val (.int xa2), .val (.int xa3), .val (.int xa4), .val (.int xa5), .val (.int xb0), .val (.int xb1), .val (.int xb2), .val (.int xb3), .val (.int xb4), .val (.int xb5), .val (.int (6 : Int32)), .val (.int (Int32.ofNat nB)), .val (.int sA), .val (.int sB), .val (.ref xA), .val (.ref xB), .val (.ref b62), .val (.ref b85), .unset, .unset, .unset] [(.int xb5), (.int xa5)])) _
                        refine XS.icmpNo X102.here hx rfl (hb hby at_373) rfl (teq (hc212 : xa5 = xb5)).2 ?_
                        show Steps p.tables e below (T102.setTop (mkF m 376 #[.val (.long vs), .second, .val (.long vt_), .second, .val (.int vlens), .val (.int vssid), .val (.int vpick), .val (.int xa0), .val (.int xa1), .val (.int xa2), .val (.int xa3), .val (.int xa4), .val (.int xa5), .val (.int xb0), .val (.int xb1), .val (.int xb2), .val (.int xb3), .val (.int xb4), .val (.int xb5), .val (.int (6 : Int32)), .val (.int (Int32.ofNat nB)), .val (.int sA), .val (.int sB), .val (.ref xA), .val (.ref xB), .val (.ref b62), .val (.ref b85), .unset, .unset, .unset] [])) _
                        refine XS.iconst X102.here hx rfl (hb hby at_376) ?_
                        show Steps p.tables e below (T102.setTop (mkF m 377 #[.val (.long vs), .second, .val (.long vt_), .second, .val (.int vlens), .val (.int vssid), .val (.int vpick), .val (.int xa0), .val (.int xa1), .val (.int xa2), .val (.int xa3), .val (.int xa4), .val (.int xa5), .val (.int xb0), .val (.int xb1), .val (.int xb2), .val (.int xb3), .val (.int xb4), .val (.int xb5), .val (.int (6 : Int32)), .val (.int (Int32.ofNat nB)), .val (.int sA), .val (.int sB), .val (.ref xA), .val (.ref xB), .val (.ref b62), .val (.ref b85), .unset, .unset, .unset] [(.int (1 : Int32))])) _
                        refine XS.goto X102.here hx rfl (pc0 := 377) (pc' := 381) rfl (hb hby at_377) (by decide) (by decide) ?_
                        exact kt
                      exact ⟨T102, _, X102, rfl, N102, fun t kt => pre213 t (by have q : (own_same (Int32.ofNat 6) (Int32.ofNat nB) sA sB xa0 xa1 xa2 xa3 xa4 xa5 xb0 xb1 xb2 xb3 xb4 xb5) = (1 : Int32) := by { rw [own_same]; exact if_pos ⟨hc198, hc200, hc202, Or.inr hc204, Or.inr hc206, Or.inr hc208, Or.inr hc210, Or.inr hc212⟩ }; rw [q] at kt; exact kt)⟩
                    ·
                      have pre214 : ∀ t, Steps p.tables e below (T102.setTop (mkF m 381 #[.val (.long vs), .second, .val (.long vt_), .second, .val (.int vlens), .val (.int vssid), .val (.int vpick), .val (.int xa0), .val (.int xa1), .val (.int xa2), .val (.int xa3), .val (.int xa4), .val (.int xa5), .val (.int xb0), .val (.int xb1), .val (.int xb2), .val (.int xb3), .val (.int xb4), .val (.int xb5), .val (.int (6 : Int32)), .val (.int (Int32.ofNat nB)), .val (.int sA), .val (.int sB), .val (.ref xA), .val (.ref xB), .val (.ref b62), .val (.ref b85), .unset, .unset, .unset] [(.int (0 : Int32))])) t → Steps p.tables e below (s₁.setTop (entryFrame m #[(.long vs), (.long vt_), (.int vlens), (.int vssid), (.int vpick)] maxLocals)) t := by
                        intro t kt
                        refine pre211 t ?_
                        show Steps p.tables e below (T102.setTop (mkF m 373 #[.val (.long vs), .second, .val (.long vt_), .second, .val (.int vlens), .val (.int vssid), .val (.int vpick), .val (.int xa0), .val (.int xa1), .val (.int xa2), .val (.int xa3), .val (.int xa4), .val (.int xa5), .val (.int xb0), .val (.int xb1), .val (.int xb2), .val (.int xb3), .val (.int xb4), .val (.int xb5), .val (.int (6 : Int32)), .val (.int (Int32.ofNat nB)), .val (.int sA), .val (.int sB), .val (.ref xA), .val (.ref xB), .val (.ref b62), .val (.ref b85), .unset, .unset, .unset] [(.int xb5), (.int xa5)])) _
                        refine XS.icmpYes X102.here hx rfl (pc0 := 373) (pc' := 380) rfl (hb hby at_373) rfl (feq (hc212 : ¬ (xa5 = xb5))).2 (by decide) (by decide) ?_
                        show Steps p.tables e below (T102.setTop (mkF m 380 #[.val (.long vs), .second, .val (.long vt_), .second, .val (.int vlens), .val (.int vssid), .val (.int vpick), .val (.int xa0), .val (.int xa1), .val (.int xa2), .val (.int xa3), .val (.int xa4), .val (.int xa5), .val (.int xb0), .val (.int xb1), .val (.int xb2), .val (.int xb3), .val (.int xb4), .val (.int xb5), .val (.int (6 : Int32)), .val (.int (Int32.ofNat nB)), .val (.int sA), .val (.int sB), .val (.ref xA), .val (.ref xB), .val (.ref b62), .val (.ref b85), .unset, .unset, .unset] [])) _
                        refine XS.iconst X102.here hx rfl (hb hby at_380) ?_
                        exact kt
                      exact ⟨T102, _, X102, rfl, N102, fun t kt => pre214 t (by have q : (own_same (Int32.ofNat 6) (Int32.ofNat nB) sA sB xa0 xa1 xa2 xa3 xa4 xa5 xb0 xb1 xb2 xb3 xb4 xb5) = (0 : Int32) := by { rw [own_same]; exact if_neg (fun q => hc212 (q.2.2.2.2.2.2.2.resolve_left (by decide))) }; rw [q] at kt; exact kt)⟩
                  ·
                    have pre215 : ∀ t, Steps p.tables e below (T102.setTop (mkF m 381 #[.val (.long vs), .second, .val (.long vt_), .second, .val (.int vlens), .val (.int vssid), .val (.int vpick), .val (.int xa0), .val (.int xa1), .val (.int xa2), .val (.int xa3), .val (.int xa4), .val (.int xa5), .val (.int xb0), .val (.int xb1), .val (.int xb2), .val (.int xb3), .val (.int xb4), .val (.int xb5), .val (.int (6 : Int32)), .val (.int (Int32.ofNat nB)), .val (.int sA), .val (.int sB), .val (.ref xA), .val (.ref xB), .val (.ref b62), .val (.ref b85), .unset, .unset, .unset] [(.int (0 : Int32))])) t → Steps p.tables e below (s₁.setTop (entryFrame m #[(.long vs), (.long vt_), (.int vlens), (.int vssid), (.int vpick)] maxLocals)) t := by
                      intro t kt
                      refine pre209 t ?_
                      show Steps p.tables e below (T102.setTop (mkF m 359 #[.val (.long vs), .second, .val (.long vt_), .second, .val (.int vlens), .val (.int vssid), .val (.int vpick), .val (.int xa0), .val (.int xa1), .val (.int xa2), .val (.int xa3), .val (.int xa4), .val (.int xa5), .val (.int xb0), .val (.int xb1), .val (.int xb2), .val (.int xb3), .val (.int xb4), .val (.int xb5), .val (.int (6 : Int32)), .val (.int (Int32.ofNat nB)), .val (.int sA), .val (.int sB), .val (.ref xA), .val (.ref xB), .val (.ref b62), .val (.ref b85), .unset, .unset, .unset] [(.int xb4), (.int xa4)])) _
                      refine XS.icmpYes X102.here hx rfl (pc0 := 359) (pc' := 380) rfl (hb hby at_359) rfl (feq (hc210 : ¬ (xa4 = xb4))).2 (by decide) (by decide) ?_
                      show Steps p.tables e below (T102.setTop (mkF m 380 #[.val (.long vs), .second, .val (.long vt_), .second, .val (.int vlens), .val (.int vssid), .val (.int vpick), .val (.int xa0), .val (.int xa1), .val (.int xa2), .val (.int xa3), .val (.int xa4), .val (.int xa5), .val (.int xb0), .val (.int xb1), .val (.int xb2), .val (.int xb3), .val (.int xb4), .val (.int xb5), .val (.int (6 : Int32)), .val (.int (Int32.ofNat nB)), .val (.int sA), .val (.int sB), .val (.ref xA), .val (.ref xB), .val (.ref b62), .val (.ref b85), .unset, .unset, .unset] [])) _
                      refine XS.iconst X102.here hx rfl (hb hby at_380) ?_
                      exact kt
                    exact ⟨T102, _, X102, rfl, N102, fun t kt => pre215 t (by have q : (own_same (Int32.ofNat 6) (Int32.ofNat nB) sA sB xa0 xa1 xa2 xa3 xa4 xa5 xb0 xb1 xb2 xb3 xb4 xb5) = (0 : Int32) := by { rw [own_same]; exact if_neg (fun q => hc210 (q.2.2.2.2.2.2.1.resolve_left (by decide))) }; rw [q] at kt; exact kt)⟩
                ·
                  have pre216 : ∀ t, Steps p.tables e below (T102.setTop (mkF m 381 #[.val (.long vs), .second, .val (.long vt_), .second, .val (.int vlens), .val (.int vssid), .val (.int vpick), .val (.int xa0), .val (.int xa1), .val (.int xa2), .val (.int xa3), .val (.int xa4), .val (.int xa5), .val (.int xb0), .val (.int xb1), .val (.int xb2), .val (.int xb3), .val (.int xb4), .val (.int xb5), .val (.int (6 : Int32)), .val (.int (Int32.ofNat nB)), .val (.int sA), .val (.int sB), .val (.ref xA), .val (.ref xB), .val (.ref b62), .val (.ref b85), .unset, .unset, .unset] [(.int (0 : Int32))])) t → Steps p.tables e below (s₁.setTop (entryFrame m #[(.long vs), (.long vt_), (.int vlens), (.int vssid), (.int vpick)] maxLocals)) t := by
                    intro t kt
                    refine pre207 t ?_
                    show Steps p.tables e below (T102.setTop (mkF m 346 #[.val (.long vs), .second, .val (.long vt_), .second, .val (.int vlens), .val (.int vssid), .val (.int vpick), .val (.int xa0), .val (.int xa1), .val (.int xa2), .val (.int xa3), .val (.int xa4), .val (.int xa5), .val (.int xb0), .val (.int xb1), .val (.int xb2), .val (.int xb3), .val (.int xb4), .val (.int xb5), .val (.int (6 : Int32)), .val (.int (Int32.ofNat nB)), .val (.int sA), .val (.int sB), .val (.ref xA), .val (.ref xB), .val (.ref b62), .val (.ref b85), .unset, .unset, .unset] [(.int xb3), (.int xa3)])) _
                    refine XS.icmpYes X102.here hx rfl (pc0 := 346) (pc' := 380) rfl (hb hby at_346) rfl (feq (hc208 : ¬ (xa3 = xb3))).2 (by decide) (by decide) ?_
                    show Steps p.tables e below (T102.setTop (mkF m 380 #[.val (.long vs), .second, .val (.long vt_), .second, .val (.int vlens), .val (.int vssid), .val (.int vpick), .val (.int xa0), .val (.int xa1), .val (.int xa2), .val (.int xa3), .val (.int xa4), .val (.int xa5), .val (.int xb0), .val (.int xb1), .val (.int xb2), .val (.int xb3), .val (.int xb4), .val (.int xb5), .val (.int (6 : Int32)), .val (.int (Int32.ofNat nB)), .val (.int sA), .val (.int sB), .val (.ref xA), .val (.ref xB), .val (.ref b62), .val (.ref b85), .unset, .unset, .unset] [])) _
                    refine XS.iconst X102.here hx rfl (hb hby at_380) ?_
                    exact kt
                  exact ⟨T102, _, X102, rfl, N102, fun t kt => pre216 t (by have q : (own_same (Int32.ofNat 6) (Int32.ofNat nB) sA sB xa0 xa1 xa2 xa3 xa4 xa5 xb0 xb1 xb2 xb3 xb4 xb5) = (0 : Int32) := by { rw [own_same]; exact if_neg (fun q => hc208 (q.2.2.2.2.2.1.resolve_left (by decide))) }; rw [q] at kt; exact kt)⟩
              ·
                have pre217 : ∀ t, Steps p.tables e below (T102.setTop (mkF m 381 #[.val (.long vs), .second, .val (.long vt_), .second, .val (.int vlens), .val (.int vssid), .val (.int vpick), .val (.int xa0), .val (.int xa1), .val (.int xa2), .val (.int xa3), .val (.int xa4), .val (.int xa5), .val (.int xb0), .val (.int xb1), .val (.int xb2), .val (.int xb3), .val (.int xb4), .val (.int xb5), .val (.int (6 : Int32)), .val (.int (Int32.ofNat nB)), .val (.int sA), .val (.int sB), .val (.ref xA), .val (.ref xB), .val (.ref b62), .val (.ref b85), .unset, .unset, .unset] [(.int (0 : Int32))])) t → Steps p.tables e below (s₁.setTop (entryFrame m #[(.long vs), (.long vt_), (.int vlens), (.int vssid), (.int vpick)] maxLocals)) t := by
                  intro t kt
                  refine pre205 t ?_
                  show Steps p.tables e below (T102.setTop (mkF m 333 #[.val (.long vs), .second, .val (.long vt_), .second, .val (.int vlens), .val (.int vssid), .val (.int vpick), .val (.int xa0), .val (.int xa1), .val (.int xa2), .val (.int xa3), .val (.int xa4), .val (.int xa5), .val (.int xb0), .val (.int xb1), .val (.int xb2), .val (.int xb3), .val (.int xb4), .val (.int xb5), .val (.int (6 : Int32)), .val (.int (Int32.ofNat nB)), .val (.int sA), .val (.int sB), .val (.ref xA), .val (.ref xB), .val (.ref b62), .val (.ref b85), .unset, .unset, .unset] [(.int xb2), (.int xa2)])) _
                  refine XS.icmpYes X102.here hx rfl (pc0 := 333) (pc' := 380) rfl (hb hby at_333) rfl (feq (hc206 : ¬ (xa2 = xb2))).2 (by decide) (by decide) ?_
                  show Steps p.tables e below (T102.setTop (mkF m 380 #[.val (.long vs), .second, .val (.long vt_), .second, .val (.int vlens), .val (.int vssid), .val (.int vpick), .val (.int xa0), .val (.int xa1), .val (.int xa2), .val (.int xa3), .val (.int xa4), .val (.int xa5), .val (.int xb0), .val (.int xb1), .val (.int xb2), .val (.int xb3), .val (.int xb4), .val (.int xb5), .val (.int (6 : Int32)), .val (.int (Int32.ofNat nB)), .val (.int sA), .val (.int sB), .val (.ref xA), .val (.ref xB), .val (.ref b62), .val (.ref b85), .unset, .unset, .unset] [])) _
                  refine XS.iconst X102.here hx rfl (hb hby at_380) ?_
                  exact kt
                exact ⟨T102, _, X102, rfl, N102, fun t kt => pre217 t (by have q : (own_same (Int32.ofNat 6) (Int32.ofNat nB) sA sB xa0 xa1 xa2 xa3 xa4 xa5 xb0 xb1 xb2 xb3 xb4 xb5) = (0 : Int32) := by { rw [own_same]; exact if_neg (fun q => hc206 (q.2.2.2.2.1.resolve_left (by decide))) }; rw [q] at kt; exact kt)⟩
            ·
              have pre218 : ∀ t, Steps p.tables e below (T102.setTop (mkF m 381 #[.val (.long vs), .second, .val (.long vt_), .second, .val (.int vlens), .val (.int vssid), .val (.int vpick), .val (.int xa0), .val (.int xa1), .val (.int xa2), .val (.int xa3), .val (.int xa4), .val (.int xa5), .val (.int xb0), .val (.int xb1), .val (.int xb2), .val (.int xb3), .val (.int xb4), .val (.int xb5), .val (.int (6 : Int32)), .val (.int (Int32.ofNat nB)), .val (.int sA), .val (.int sB), .val (.ref xA), .val (.ref xB), .val (.ref b62), .val (.ref b85), .unset, .unset, .unset] [(.int (0 : Int32))])) t → Steps p.tables e below (s₁.setTop (entryFrame m #[(.long vs), (.long vt_), (.int vlens), (.int vssid), (.int vpick)] maxLocals)) t := by
                intro t kt
                refine pre203 t ?_
                show Steps p.tables e below (T102.setTop (mkF m 320 #[.val (.long vs), .second, .val (.long vt_), .second, .val (.int vlens), .val (.int vssid), .val (.int vpick), .val (.int xa0), .val (.int xa1), .val (.int xa2), .val (.int xa3), .val (.int xa4), .val (.int xa5), .val (.int xb0), .val (.int xb1), .val (.int xb2), .val (.int xb3), .val (.int xb4), .val (.int xb5), .val (.int (6 : Int32)), .val (.int (Int32.ofNat nB)), .val (.int sA), .val (.int sB), .val (.ref xA), .val (.ref xB), .val (.ref b62), .val (.ref b85), .unset, .unset, .unset] [(.int xb1), (.int xa1)])) _
                refine XS.icmpYes X102.here hx rfl (pc0 := 320) (pc' := 380) rfl (hb hby at_320) rfl (feq (hc204 : ¬ (xa1 = xb1))).2 (by decide) (by decide) ?_
                show Steps p.tables e below (T102.setTop (mkF m 380 #[.val (.long vs), .second, .val (.long vt_), .second, .val (.int vlens), .val (.int vssid), .val (.int vpick), .val (.int xa0), .val (.int xa1), .val (.int xa2), .val (.int xa3), .val (.int xa4), .val (.int xa5), .val (.int xb0), .val (.int xb1), .val (.int xb2), .val (.int xb3), .val (.int xb4), .val (.int xb5), .val (.int (6 : Int32)), .val (.int (Int32.ofNat nB)), .val (.int sA), .val (.int sB), .val (.ref xA), .val (.ref xB), .val (.ref b62), .val (.ref b85), .unset, .unset, .unset] [])) _
                refine XS.iconst X102.here hx rfl (hb hby at_380) ?_
                exact kt
              exact ⟨T102, _, X102, rfl, N102, fun t kt => pre218 t (by have q : (own_same (Int32.ofNat 6) (Int32.ofNat nB) sA sB xa0 xa1 xa2 xa3 xa4 xa5 xb0 xb1 xb2 xb3 xb4 xb5) = (0 : Int32) := by { rw [own_same]; exact if_neg (fun q => hc204 (q.2.2.2.1.resolve_left (by decide))) }; rw [q] at kt; exact kt)⟩
          ·
            have pre219 : ∀ t, Steps p.tables e below (T102.setTop (mkF m 381 #[.val (.long vs), .second, .val (.long vt_), .second, .val (.int vlens), .val (.int vssid), .val (.int vpick), .val (.int xa0), .val (.int xa1), .val (.int xa2), .val (.int xa3), .val (.int xa4), .val (.int xa5), .val (.int xb0), .val (.int xb1), .val (.int xb2), .val (.int xb3), .val (.int xb4), .val (.int xb5), .val (.int (6 : Int32)), .val (.int (Int32.ofNat nB)), .val (.int sA), .val (.int sB), .val (.ref xA), .val (.ref xB), .val (.ref b62), .val (.ref b85), .unset, .unset, .unset] [(.int (0 : Int32))])) t → Steps p.tables e below (s₁.setTop (entryFrame m #[(.long vs), (.long vt_), (.int vlens), (.int vssid), (.int vpick)] maxLocals)) t := by
              intro t kt
              refine pre201 t ?_
              show Steps p.tables e below (T102.setTop (mkF m 307 #[.val (.long vs), .second, .val (.long vt_), .second, .val (.int vlens), .val (.int vssid), .val (.int vpick), .val (.int xa0), .val (.int xa1), .val (.int xa2), .val (.int xa3), .val (.int xa4), .val (.int xa5), .val (.int xb0), .val (.int xb1), .val (.int xb2), .val (.int xb3), .val (.int xb4), .val (.int xb5), .val (.int (6 : Int32)), .val (.int (Int32.ofNat nB)), .val (.int sA), .val (.int sB), .val (.ref xA), .val (.ref xB), .val (.ref b62), .val (.ref b85), .unset, .unset, .unset] [(.int xb0), (.int xa0)])) _
              refine XS.icmpYes X102.here hx rfl (pc0 := 307) (pc' := 380) rfl (hb hby at_307) rfl (feq (hc202 : ¬ (xa0 = xb0))).2 (by decide) (by decide) ?_
              show Steps p.tables e below (T102.setTop (mkF m 380 #[.val (.long vs), .second, .val (.long vt_), .second, .val (.int vlens), .val (.int vssid), .val (.int vpick), .val (.int xa0), .val (.int xa1), .val (.int xa2), .val (.int xa3), .val (.int xa4), .val (.int xa5), .val (.int xb0), .val (.int xb1), .val (.int xb2), .val (.int xb3), .val (.int xb4), .val (.int xb5), .val (.int (6 : Int32)), .val (.int (Int32.ofNat nB)), .val (.int sA), .val (.int sB), .val (.ref xA), .val (.ref xB), .val (.ref b62), .val (.ref b85), .unset, .unset, .unset] [])) _
              refine XS.iconst X102.here hx rfl (hb hby at_380) ?_
              exact kt
            exact ⟨T102, _, X102, rfl, N102, fun t kt => pre219 t (by have q : (own_same (Int32.ofNat 6) (Int32.ofNat nB) sA sB xa0 xa1 xa2 xa3 xa4 xa5 xb0 xb1 xb2 xb3 xb4 xb5) = (0 : Int32) := by { rw [own_same]; exact if_neg (fun q => hc202 q.2.2.1) }; rw [q] at kt; exact kt)⟩
        ·
          have pre220 : ∀ t, Steps p.tables e below (T102.setTop (mkF m 381 #[.val (.long vs), .second, .val (.long vt_), .second, .val (.int vlens), .val (.int vssid), .val (.int vpick), .val (.int xa0), .val (.int xa1), .val (.int xa2), .val (.int xa3), .val (.int xa4), .val (.int xa5), .val (.int xb0), .val (.int xb1), .val (.int xb2), .val (.int xb3), .val (.int xb4), .val (.int xb5), .val (.int (6 : Int32)), .val (.int (Int32.ofNat nB)), .val (.int sA), .val (.int sB), .val (.ref xA), .val (.ref xB), .val (.ref b62), .val (.ref b85), .unset, .unset, .unset] [(.int (0 : Int32))])) t → Steps p.tables e below (s₁.setTop (entryFrame m #[(.long vs), (.long vt_), (.int vlens), (.int vssid), (.int vpick)] maxLocals)) t := by
            intro t kt
            refine pre199 t ?_
            show Steps p.tables e below (T102.setTop (mkF m 300 #[.val (.long vs), .second, .val (.long vt_), .second, .val (.int vlens), .val (.int vssid), .val (.int vpick), .val (.int xa0), .val (.int xa1), .val (.int xa2), .val (.int xa3), .val (.int xa4), .val (.int xa5), .val (.int xb0), .val (.int xb1), .val (.int xb2), .val (.int xb3), .val (.int xb4), .val (.int xb5), .val (.int (6 : Int32)), .val (.int (Int32.ofNat nB)), .val (.int sA), .val (.int sB), .val (.ref xA), .val (.ref xB), .val (.ref b62), .val (.ref b85), .unset, .unset, .unset] [(.int sB), (.int sA)])) _
            refine XS.icmpYes X102.here hx rfl (pc0 := 300) (pc' := 380) rfl (hb hby at_300) rfl (feq (hc200 : ¬ (sA = sB))).2 (by decide) (by decide) ?_
            show Steps p.tables e below (T102.setTop (mkF m 380 #[.val (.long vs), .second, .val (.long vt_), .second, .val (.int vlens), .val (.int vssid), .val (.int vpick), .val (.int xa0), .val (.int xa1), .val (.int xa2), .val (.int xa3), .val (.int xa4), .val (.int xa5), .val (.int xb0), .val (.int xb1), .val (.int xb2), .val (.int xb3), .val (.int xb4), .val (.int xb5), .val (.int (6 : Int32)), .val (.int (Int32.ofNat nB)), .val (.int sA), .val (.int sB), .val (.ref xA), .val (.ref xB), .val (.ref b62), .val (.ref b85), .unset, .unset, .unset] [])) _
            refine XS.iconst X102.here hx rfl (hb hby at_380) ?_
            exact kt
          exact ⟨T102, _, X102, rfl, N102, fun t kt => pre220 t (by have q : (own_same (Int32.ofNat 6) (Int32.ofNat nB) sA sB xa0 xa1 xa2 xa3 xa4 xa5 xb0 xb1 xb2 xb3 xb4 xb5) = (0 : Int32) := by { rw [own_same]; exact if_neg (fun q => hc200 q.2.1) }; rw [q] at kt; exact kt)⟩
      ·
        have pre221 : ∀ t, Steps p.tables e below (T102.setTop (mkF m 381 #[.val (.long vs), .second, .val (.long vt_), .second, .val (.int vlens), .val (.int vssid), .val (.int vpick), .val (.int xa0), .val (.int xa1), .val (.int xa2), .val (.int xa3), .val (.int xa4), .val (.int xa5), .val (.int xb0), .val (.int xb1), .val (.int xb2), .val (.int xb3), .val (.int xb4), .val (.int xb5), .val (.int (6 : Int32)), .val (.int (Int32.ofNat nB)), .val (.int sA), .val (.int sB), .val (.ref xA), .val (.ref xB), .val (.ref b62), .val (.ref b85), .unset, .unset, .unset] [(.int (0 : Int32))])) t → Steps p.tables e below (s₁.setTop (entryFrame m #[(.long vs), (.long vt_), (.int vlens), (.int vssid), (.int vpick)] maxLocals)) t := by
          intro t kt
          refine pre197 t ?_
          show Steps p.tables e below (T102.setTop (mkF m 293 #[.val (.long vs), .second, .val (.long vt_), .second, .val (.int vlens), .val (.int vssid), .val (.int vpick), .val (.int xa0), .val (.int xa1), .val (.int xa2), .val (.int xa3), .val (.int xa4), .val (.int xa5), .val (.int xb0), .val (.int xb1), .val (.int xb2), .val (.int xb3), .val (.int xb4), .val (.int xb5), .val (.int (6 : Int32)), .val (.int (Int32.ofNat nB)), .val (.int sA), .val (.int sB), .val (.ref xA), .val (.ref xB), .val (.ref b62), .val (.ref b85), .unset, .unset, .unset] [(.int (Int32.ofNat nB)), (.int (6 : Int32))])) _
          refine XS.icmpYes X102.here hx rfl (pc0 := 293) (pc' := 380) rfl (hb hby at_293) rfl (feq (hc198 : ¬ ((6 : Int32) = (Int32.ofNat nB)))).2 (by decide) (by decide) ?_
          show Steps p.tables e below (T102.setTop (mkF m 380 #[.val (.long vs), .second, .val (.long vt_), .second, .val (.int vlens), .val (.int vssid), .val (.int vpick), .val (.int xa0), .val (.int xa1), .val (.int xa2), .val (.int xa3), .val (.int xa4), .val (.int xa5), .val (.int xb0), .val (.int xb1), .val (.int xb2), .val (.int xb3), .val (.int xb4), .val (.int xb5), .val (.int (6 : Int32)), .val (.int (Int32.ofNat nB)), .val (.int sA), .val (.int sB), .val (.ref xA), .val (.ref xB), .val (.ref b62), .val (.ref b85), .unset, .unset, .unset] [])) _
          refine XS.iconst X102.here hx rfl (hb hby at_380) ?_
          exact kt
        exact ⟨T102, _, X102, rfl, N102, fun t kt => pre221 t (by have q : (own_same (Int32.ofNat 6) (Int32.ofNat nB) sA sB xa0 xa1 xa2 xa3 xa4 xa5 xb0 xb1 xb2 xb3 xb4 xb5) = (0 : Int32) := by { rw [own_same]; exact if_neg (fun q => hc198 q.1) }; rw [q] at kt; exact kt)⟩
  obtain ⟨cq222, kq222, q222a, q222b, q222c⟩ := isOf hZ e116 c111
  obtain ⟨_, _, ⟨T222, L222, k222, n222⟩, -, X222, ⟨Lc222, hQ222, l222, y222, z222⟩, st222⟩ := X116.virtualBack hx (y := (⟨"com/example/packet_radio_link/packetradiolink/frame/Address", "equals", "(Ljava/lang/Object;)Z"⟩ : MethodName)) (z := (⟨"com/example/packet_radio_link/packetradiolink/frame/Address", "equals", "(Ljava/lang/Object;)Z"⟩ : MethodName)) hown (mvT hZ (hw _ (List.mem_of_getElem? (i := 93) rfl))) (mvT hZ (hw _ (List.mem_of_getElem? (i := 94) rfl))) (notFace_of_selects (args := #[]) (mvT hZ (hw _ (List.mem_of_getElem? (i := 96) rfl)))) (mvT hZ (hw _ (List.mem_of_getElem? (i := 96) rfl))) (mvT hZ (hw _ (List.mem_of_getElem? (i := 95) rfl))) (by decide) (backOf (W := 0) (rm20 l Z a0 hw [] b62 b85 (own_chk (List.take nA ([nar .char xa0, nar .char xa1, nar .char xa2, nar .char xa3, nar .char xa4, nar .char xa5] : List Int32)) 6 0 (0 : Int64)) sA (own_chk (List.take nB ([nar .char xb0, nar .char xb1, nar .char xb2, nar .char xb3, nar .char xb4, nar .char xb5] : List Int32)) 6 0 (0 : Int64)) sB T102.heap n0 Z102 c111 c112 c113 f102_0 f102_1 f102_2) hZ (hw _ (List.mem_of_getElem? (i := 97) rfl)) (hw _ (List.mem_of_getElem? (i := 41) rfl)) (by decide) (by decide)) q222a q222c (g := (mkF m 394 #[.val (.long vs), .second, .val (.long vt_), .second, .val (.int vlens), .val (.int vssid), .val (.int vpick), .val (.int xa0), .val (.int xa1), .val (.int xa2), .val (.int xa3), .val (.int xa4), .val (.int xa5), .val (.int xb0), .val (.int xb1), .val (.int xb2), .val (.int xb3), .val (.int xb4), .val (.int xb5), .val (.int (Int32.ofNat nA)), .val (.int (Int32.ofNat nB)), .val (.int sA), .val (.int sB), .val (.ref xA), .val (.ref xB), .val (.ref b62), .val (.ref b85), .val (.int (own_same (Int32.ofNat nA) (Int32.ofNat nB) sA sB xa0 xa1 xa2 xa3 xa4 xa5 xb0 xb1 xb2 xb3 xb4 xb5)), .val .null, .val (.ref xA)] [(.ref b85), (.ref b62)])) rfl (by rw [hml]; rfl) (Steps.refl _) (argsL := [(.ref b85)]) (rest := []) (lenOf pd_9 rfl) rfl (by show 2 * 0 + _ ≤ _; exact Nat.le_of_eq rfl) (hb hby at_394) (fun _ _ => ⟨rfl, e116, (by decide : 8 + 0 ≤ _), (by decide : 36 + 0 ≤ _)⟩)
  dsimp only [Pt.U, Pt.locs, Pt.cells, Pt.slots] at X222 l222 y222 z222 st222 hQ222
  subst l222 y222 z222
  obtain ⟨rfl, N222q, e222q⟩ := hQ222
  have N222 := Fr.app N116 N222q
  obtain ⟨cq223, kq223, q223a, q223b, q223c⟩ := isOf hZ e222q f102_0
  obtain ⟨_, _, ⟨T223, L223, k223, n223⟩, -, X223, ⟨Lc223, hQ223, l223, y223, z223⟩, st223⟩ := X222.virtualBack hx (y := (⟨"com/example/packet_radio_link/packetradiolink/frame/Address", "equals", "(Ljava/lang/Object;)Z"⟩ : MethodName)) (z := (⟨"com/example/packet_radio_link/packetradiolink/frame/Address", "equals", "(Ljava/lang/Object;)Z"⟩ : MethodName)) hown (mvT hZ (hw _ (List.mem_of_getElem? (i := 93) rfl))) (mvT hZ (hw _ (List.mem_of_getElem? (i := 94) rfl))) (notFace_of_selects (args := #[]) (mvT hZ (hw _ (List.mem_of_getElem? (i := 96) rfl)))) (mvT hZ (hw _ (List.mem_of_getElem? (i := 96) rfl))) (mvT hZ (hw _ (List.mem_of_getElem? (i := 95) rfl))) (by decide) (backOf (W := 0) (rm20 l Z a0 hw [] b85 b62 (own_chk (List.take nB ([nar .char xb0, nar .char xb1, nar .char xb2, nar .char xb3, nar .char xb4, nar .char xb5] : List Int32)) 6 0 (0 : Int64)) sB (own_chk (List.take nA ([nar .char xa0, nar .char xa1, nar .char xa2, nar .char xa3, nar .char xa4, nar .char xa5] : List Int32)) 6 0 (0 : Int64)) sA T102.heap n0 Z102 f102_0 f102_1 f102_2 c111 c112 c113) hZ (hw _ (List.mem_of_getElem? (i := 97) rfl)) (hw _ (List.mem_of_getElem? (i := 41) rfl)) (by decide) (by decide)) q223a q223c (g := (mkF m 406 #[.val (.long vs), .second, .val (.long vt_), .second, .val (.int vlens), .val (.int vssid), .val (.int vpick), .val (.int xa0), .val (.int xa1), .val (.int xa2), .val (.int xa3), .val (.int xa4), .val (.int xa5), .val (.int xb0), .val (.int xb1), .val (.int xb2), .val (.int xb3), .val (.int xb4), .val (.int xb5), .val (.int (Int32.ofNat nA)), .val (.int (Int32.ofNat nB)), .val (.int sA), .val (.int sB), .val (.ref xA), .val (.ref xB), .val (.ref b62), .val (.ref b85), .val (.int (own_same (Int32.ofNat nA) (Int32.ofNat nB) sA sB xa0 xa1 xa2 xa3 xa4 xa5 xb0 xb1 xb2 xb3 xb4 xb5)), .val .null, .val (.ref xA)] [(.ref b62), (.ref b85)])) rfl (by rw [hml]; rfl) (Steps.refl _) (argsL := [(.ref b62)]) (rest := []) (lenOf pd_9 rfl) rfl (by show 2 * 0 + _ ≤ _; exact Nat.le_of_eq rfl) (hb hby at_406) (fun _ _ => ⟨rfl, e222q, (by decide : 8 + 0 ≤ _), (by decide : 36 + 0 ≤ _)⟩)
  dsimp only [Pt.U, Pt.locs, Pt.cells, Pt.slots] at X223 l223 y223 z223 st223 hQ223
  subst l223 y223 z223
  obtain ⟨rfl, N223q, e223q⟩ := hQ223
  have N223 := Fr.app N222 N223q
  obtain ⟨cq224, kq224, q224a, q224b, q224c⟩ := isOf hZ e223q c111
  obtain ⟨_, _, ⟨T224, L224, k224, n224⟩, -, X224, ⟨Lc224, hQ224, l224, y224, z224⟩, st224⟩ := X223.virtualBack hx (y := (⟨"com/example/packet_radio_link/packetradiolink/frame/Address", "equals", "(Ljava/lang/Object;)Z"⟩ : MethodName)) (z := (⟨"com/example/packet_radio_link/packetradiolink/frame/Address", "equals", "(Ljava/lang/Object;)Z"⟩ : MethodName)) hown (mvT hZ (hw _ (List.mem_of_getElem? (i := 93) rfl))) (mvT hZ (hw _ (List.mem_of_getElem? (i := 94) rfl))) (notFace_of_selects (args := #[]) (mvT hZ (hw _ (List.mem_of_getElem? (i := 96) rfl)))) (mvT hZ (hw _ (List.mem_of_getElem? (i := 96) rfl))) (mvT hZ (hw _ (List.mem_of_getElem? (i := 95) rfl))) (by decide) (backOf (W := 0) (rm20 l Z a0 hw [] b62 b62 (own_chk (List.take nA ([nar .char xa0, nar .char xa1, nar .char xa2, nar .char xa3, nar .char xa4, nar .char xa5] : List Int32)) 6 0 (0 : Int64)) sA (own_chk (List.take nA ([nar .char xa0, nar .char xa1, nar .char xa2, nar .char xa3, nar .char xa4, nar .char xa5] : List Int32)) 6 0 (0 : Int64)) sA T102.heap n0 Z102 c111 c112 c113 c111 c112 c113) hZ (hw _ (List.mem_of_getElem? (i := 97) rfl)) (hw _ (List.mem_of_getElem? (i := 41) rfl)) (by decide) (by decide)) q224a q224c (g := (mkF m 418 #[.val (.long vs), .second, .val (.long vt_), .second, .val (.int vlens), .val (.int vssid), .val (.int vpick), .val (.int xa0), .val (.int xa1), .val (.int xa2), .val (.int xa3), .val (.int xa4), .val (.int xa5), .val (.int xb0), .val (.int xb1), .val (.int xb2), .val (.int xb3), .val (.int xb4), .val (.int xb5), .val (.int (Int32.ofNat nA)), .val (.int (Int32.ofNat nB)), .val (.int sA), .val (.int sB), .val (.ref xA), .val (.ref xB), .val (.ref b62), .val (.ref b85), .val (.int (own_same (Int32.ofNat nA) (Int32.ofNat nB) sA sB xa0 xa1 xa2 xa3 xa4 xa5 xb0 xb1 xb2 xb3 xb4 xb5)), .val .null, .val (.ref xA)] [(.ref b62), (.ref b62)])) rfl (by rw [hml]; rfl) (Steps.refl _) (argsL := [(.ref b62)]) (rest := []) (lenOf pd_9 rfl) rfl (by show 2 * 0 + _ ≤ _; exact Nat.le_of_eq rfl) (hb hby at_418) (fun _ _ => ⟨rfl, e223q, (by decide : 8 + 0 ≤ _), (by decide : 36 + 0 ≤ _)⟩)
  dsimp only [Pt.U, Pt.locs, Pt.cells, Pt.slots] at X224 l224 y224 z224 st224 hQ224
  subst l224 y224 z224
  obtain ⟨rfl, N224q, e224q⟩ := hQ224
  have N224 := Fr.app N223 N224q
  obtain ⟨cq225, kq225, q225a, q225b, q225c⟩ := isOf hZ e224q c111
  obtain ⟨_, _, ⟨T225, L225, k225, n225⟩, -, X225, ⟨Lc225, hQ225, l225, y225, z225⟩, st225⟩ := X224.virtualBack hx (y := (⟨"com/example/packet_radio_link/packetradiolink/frame/Address", "equals", "(Ljava/lang/Object;)Z"⟩ : MethodName)) (z := (⟨"com/example/packet_radio_link/packetradiolink/frame/Address", "equals", "(Ljava/lang/Object;)Z"⟩ : MethodName)) hown (mvT hZ (hw _ (List.mem_of_getElem? (i := 93) rfl))) (mvT hZ (hw _ (List.mem_of_getElem? (i := 94) rfl))) (notFace_of_selects (args := #[]) (mvT hZ (hw _ (List.mem_of_getElem? (i := 96) rfl)))) (mvT hZ (hw _ (List.mem_of_getElem? (i := 96) rfl))) (mvT hZ (hw _ (List.mem_of_getElem? (i := 95) rfl))) (by decide) (backOf (W := 0) (rmEn l Z a0 hw [] b62  T102.heap n0 Z102 ) hZ (hw _ (List.mem_of_getElem? (i := 97) rfl)) (hw _ (List.mem_of_getElem? (i := 41) rfl)) (by decide) (by decide)) q225a q225c (g := (mkF m 428 #[.val (.long vs), .second, .val (.long vt_), .second, .val (.int vlens), .val (.int vssid), .val (.int vpick), .val (.int xa0), .val (.int xa1), .val (.int xa2), .val (.int xa3), .val (.int xa4), .val (.int xa5), .val (.int xb0), .val (.int xb1), .val (.int xb2), .val (.int xb3), .val (.int xb4), .val (.int xb5), .val (.int (Int32.ofNat nA)), .val (.int (Int32.ofNat nB)), .val (.int sA), .val (.int sB), .val (.ref xA), .val (.ref xB), .val (.ref b62), .val (.ref b85), .val (.int (own_same (Int32.ofNat nA) (Int32.ofNat nB) sA sB xa0 xa1 xa2 xa3 xa4 xa5 xb0 xb1 xb2 xb3 xb4 xb5)), .val .null, .val (.ref xA)] [.null, (.ref b62)])) rfl (by rw [hml]; rfl) (Steps.refl _) (argsL := [.null]) (rest := []) (lenOf pd_9 rfl) rfl (by show 2 * 0 + _ ≤ _; exact Nat.le_of_eq rfl) (hb hby at_428) (fun _ _ => ⟨rfl, e224q, (by decide : 8 + 0 ≤ _), (by decide : 36 + 0 ≤ _)⟩)
  dsimp only [Pt.U, Pt.locs, Pt.cells, Pt.slots] at X225 l225 y225 z225 st225 hQ225
  subst l225 y225 z225
  obtain ⟨rfl, N225q, e225q⟩ := hQ225
  have N225 := Fr.app N224 N225q
  obtain ⟨cq226, kq226, q226a, q226b, q226c⟩ := isOf hZ e225q c111
  obtain ⟨_, _, ⟨T226, L226, k226, n226⟩, -, X226, ⟨Lc226, hQ226, l226, y226, z226⟩, st226⟩ := X225.virtualBack hx (y := (⟨"com/example/packet_radio_link/packetradiolink/frame/Address", "equals", "(Ljava/lang/Object;)Z"⟩ : MethodName)) (z := (⟨"com/example/packet_radio_link/packetradiolink/frame/Address", "equals", "(Ljava/lang/Object;)Z"⟩ : MethodName)) hown (mvT hZ (hw _ (List.mem_of_getElem? (i := 93) rfl))) (mvT hZ (hw _ (List.mem_of_getElem? (i := 94) rfl))) (notFace_of_selects (args := #[]) (mvT hZ (hw _ (List.mem_of_getElem? (i := 96) rfl)))) (mvT hZ (hw _ (List.mem_of_getElem? (i := 96) rfl))) (mvT hZ (hw _ (List.mem_of_getElem? (i := 95) rfl))) (by decide) (backOf (W := 0) (rmEs l Z a0 hw [] b62 xA  T102.heap n0 Z102 c103) hZ (hw _ (List.mem_of_getElem? (i := 97) rfl)) (hw _ (List.mem_of_getElem? (i := 41) rfl)) (by decide) (by decide)) q226a q226c (g := (mkF m 438 #[.val (.long vs), .second, .val (.long vt_), .second, .val (.int vlens), .val (.int vssid), .val (.int vpick), .val (.int xa0), .val (.int xa1), .val (.int xa2), .val (.int xa3), .val (.int xa4), .val (.int xa5), .val (.int xb0), .val (.int xb1), .val (.int xb2), .val (.int xb3), .val (.int xb4), .val (.int xb5), .val (.int (Int32.ofNat nA)), .val (.int (Int32.ofNat nB)), .val (.int sA), .val (.int sB), .val (.ref xA), .val (.ref xB), .val (.ref b62), .val (.ref b85), .val (.int (own_same (Int32.ofNat nA) (Int32.ofNat nB) sA sB xa0 xa1 xa2 xa3 xa4 xa5 xb0 xb1 xb2 xb3 xb4 xb5)), .val .null, .val (.ref xA)] [(.ref xA), (.ref b62)])) rfl (by rw [hml]; rfl) (Steps.refl _) (argsL := [(.ref xA)]) (rest := []) (lenOf pd_9 rfl) rfl (by show 2 * 0 + _ ≤ _; exact Nat.le_of_eq rfl) (hb hby at_438) (fun _ _ => ⟨rfl, e225q, (by decide : 8 + 0 ≤ _), (by decide : 36 + 0 ≤ _)⟩)
  dsimp only [Pt.U, Pt.locs, Pt.cells, Pt.slots] at X226 l226 y226 z226 st226 hQ226
  subst l226 y226 z226
  obtain ⟨rfl, N226q, e226q⟩ := hQ226
  have N226 := Fr.app N225 N226q
  obtain ⟨fs, hr, hrun, hended, hW, hsame⟩ := X226.leave (v := some (.int (1 : Int32))) (fun h => by rw [Bd.returns] at h; cases h) (hlocks := BodyLoose.notSynchronized Bd)
  refine ⟨_, _, pre116 _ ?_, hrun, hended, _, _, rfl, ?_, ⟨_, rfl⟩, hW, hsame.mono (by decide) (by decide)⟩
  ·
    show Steps p.tables e below (T116.setTop (mkF m 381 #[.val (.long vs), .second, .val (.long vt_), .second, .val (.int vlens), .val (.int vssid), .val (.int vpick), .val (.int xa0), .val (.int xa1), .val (.int xa2), .val (.int xa3), .val (.int xa4), .val (.int xa5), .val (.int xb0), .val (.int xb1), .val (.int xb2), .val (.int xb3), .val (.int xb4), .val (.int xb5), .val (.int (Int32.ofNat nA)), .val (.int (Int32.ofNat nB)), .val (.int sA), .val (.int sB), .val (.ref xA), .val (.ref xB), .val (.ref b62), .val (.ref b85), .unset, .unset, .unset] [(.int (own_same (Int32.ofNat nA) (Int32.ofNat nB) sA sB xa0 xa1 xa2 xa3 xa4 xa5 xb0 xb1 xb2 xb3 xb4 xb5))])) _
    refine XS.istore X116.here hx rfl (hb hby at_381) rfl (l' := #[.val (.long vs), .second, .val (.long vt_), .second, .val (.int vlens), .val (.int vssid), .val (.int vpick), .val (.int xa0), .val (.int xa1), .val (.int xa2), .val (.int xa3), .val (.int xa4), .val (.int xa5), .val (.int xb0), .val (.int xb1), .val (.int xb2), .val (.int xb3), .val (.int xb4), .val (.int xb5), .val (.int (Int32.ofNat nA)), .val (.int (Int32.ofNat nB)), .val (.int sA), .val (.int sB), .val (.ref xA), .val (.ref xB), .val (.ref b62), .val (.ref b85), .val (.int (own_same (Int32.ofNat nA) (Int32.ofNat nB) sA sB xa0 xa1 xa2 xa3 xa4 xa5 xb0 xb1 xb2 xb3 xb4 xb5)), .unset, .unset]) rfl ?_
    show Steps p.tables e below (T116.setTop (mkF m 383 #[.val (.long vs), .second, .val (.long vt_), .second, .val (.int vlens), .val (.int vssid), .val (.int vpick), .val (.int xa0), .val (.int xa1), .val (.int xa2), .val (.int xa3), .val (.int xa4), .val (.int xa5), .val (.int xb0), .val (.int xb1), .val (.int xb2), .val (.int xb3), .val (.int xb4), .val (.int xb5), .val (.int (Int32.ofNat nA)), .val (.int (Int32.ofNat nB)), .val (.int sA), .val (.int sB), .val (.ref xA), .val (.ref xB), .val (.ref b62), .val (.ref b85), .val (.int (own_same (Int32.ofNat nA) (Int32.ofNat nB) sA sB xa0 xa1 xa2 xa3 xa4 xa5 xb0 xb1 xb2 xb3 xb4 xb5)), .unset, .unset] [])) _
    refine XS.aconstNull X116.here hx rfl (hb hby at_383) ?_
    show Steps p.tables e below (T116.setTop (mkF m 384 #[.val (.long vs), .second, .val (.long vt_), .second, .val (.int vlens), .val (.int vssid), .val (.int vpick), .val (.int xa0), .val (.int xa1), .val (.int xa2), .val (.int xa3), .val (.int xa4), .val (.int xa5), .val (.int xb0), .val (.int xb1), .val (.int xb2), .val (.int xb3), .val (.int xb4), .val (.int xb5), .val (.int (Int32.ofNat nA)), .val (.int (Int32.ofNat nB)), .val (.int sA), .val (.int sB), .val (.ref xA), .val (.ref xB), .val (.ref b62), .val (.ref b85), .val (.int (own_same (Int32.ofNat nA) (Int32.ofNat nB) sA sB xa0 xa1 xa2 xa3 xa4 xa5 xb0 xb1 xb2 xb3 xb4 xb5)), .unset, .unset] [.null])) _
    refine XS.astore X116.here hx rfl (hb hby at_384) rfl rfl (l' := #[.val (.long vs), .second, .val (.long vt_), .second, .val (.int vlens), .val (.int vssid), .val (.int vpick), .val (.int xa0), .val (.int xa1), .val (.int xa2), .val (.int xa3), .val (.int xa4), .val (.int xa5), .val (.int xb0), .val (.int xb1), .val (.int xb2), .val (.int xb3), .val (.int xb4), .val (.int xb5), .val (.int (Int32.ofNat nA)), .val (.int (Int32.ofNat nB)), .val (.int sA), .val (.int sB), .val (.ref xA), .val (.ref xB), .val (.ref b62), .val (.ref b85), .val (.int (own_same (Int32.ofNat nA) (Int32.ofNat nB) sA sB xa0 xa1 xa2 xa3 xa4 xa5 xb0 xb1 xb2 xb3 xb4 xb5)), .val .null, .unset]) rfl ?_
    show Steps p.tables e below (T116.setTop (mkF m 386 #[.val (.long vs), .second, .val (.long vt_), .second, .val (.int vlens), .val (.int vssid), .val (.int vpick), .val (.int xa0), .val (.int xa1), .val (.int xa2), .val (.int xa3), .val (.int xa4), .val (.int xa5), .val (.int xb0), .val (.int xb1), .val (.int xb2), .val (.int xb3), .val (.int xb4), .val (.int xb5), .val (.int (Int32.ofNat nA)), .val (.int (Int32.ofNat nB)), .val (.int sA), .val (.int sB), .val (.ref xA), .val (.ref xB), .val (.ref b62), .val (.ref b85), .val (.int (own_same (Int32.ofNat nA) (Int32.ofNat nB) sA sB xa0 xa1 xa2 xa3 xa4 xa5 xb0 xb1 xb2 xb3 xb4 xb5)), .val .null, .unset] [])) _
    refine XS.aload X116.here hx rfl (hb hby at_386) rfl rfl ?_
    show Steps p.tables e below (T116.setTop (mkF m 388 #[.val (.long vs), .second, .val (.long vt_), .second, .val (.int vlens), .val (.int vssid), .val (.int vpick), .val (.int xa0), .val (.int xa1), .val (.int xa2), .val (.int xa3), .val (.int xa4), .val (.int xa5), .val (.int xb0), .val (.int xb1), .val (.int xb2), .val (.int xb3), .val (.int xb4), .val (.int xb5), .val (.int (Int32.ofNat nA)), .val (.int (Int32.ofNat nB)), .val (.int sA), .val (.int sB), .val (.ref xA), .val (.ref xB), .val (.ref b62), .val (.ref b85), .val (.int (own_same (Int32.ofNat nA) (Int32.ofNat nB) sA sB xa0 xa1 xa2 xa3 xa4 xa5 xb0 xb1 xb2 xb3 xb4 xb5)), .val .null, .unset] [(.ref xA)])) _
    refine XS.astore X116.here hx rfl (hb hby at_388) rfl rfl (l' := #[.val (.long vs), .second, .val (.long vt_), .second, .val (.int vlens), .val (.int vssid), .val (.int vpick), .val (.int xa0), .val (.int xa1), .val (.int xa2), .val (.int xa3), .val (.int xa4), .val (.int xa5), .val (.int xb0), .val (.int xb1), .val (.int xb2), .val (.int xb3), .val (.int xb4), .val (.int xb5), .val (.int (Int32.ofNat nA)), .val (.int (Int32.ofNat nB)), .val (.int sA), .val (.int sB), .val (.ref xA), .val (.ref xB), .val (.ref b62), .val (.ref b85), .val (.int (own_same (Int32.ofNat nA) (Int32.ofNat nB) sA sB xa0 xa1 xa2 xa3 xa4 xa5 xb0 xb1 xb2 xb3 xb4 xb5)), .val .null, .val (.ref xA)]) rfl ?_
    show Steps p.tables e below (T116.setTop (mkF m 390 #[.val (.long vs), .second, .val (.long vt_), .second, .val (.int vlens), .val (.int vssid), .val (.int vpick), .val (.int xa0), .val (.int xa1), .val (.int xa2), .val (.int xa3), .val (.int xa4), .val (.int xa5), .val (.int xb0), .val (.int xb1), .val (.int xb2), .val (.int xb3), .val (.int xb4), .val (.int xb5), .val (.int (Int32.ofNat nA)), .val (.int (Int32.ofNat nB)), .val (.int sA), .val (.int sB), .val (.ref xA), .val (.ref xB), .val (.ref b62), .val (.ref b85), .val (.int (own_same (Int32.ofNat nA) (Int32.ofNat nB) sA sB xa0 xa1 xa2 xa3 xa4 xa5 xb0 xb1 xb2 xb3 xb4 xb5)), .val .null, .val (.ref xA)] [])) _
    refine XS.aload X116.here hx rfl (hb hby at_390) rfl rfl ?_
    show Steps p.tables e below (T116.setTop (mkF m 392 #[.val (.long vs), .second, .val (.long vt_), .second, .val (.int vlens), .val (.int vssid), .val (.int vpick), .val (.int xa0), .val (.int xa1), .val (.int xa2), .val (.int xa3), .val (.int xa4), .val (.int xa5), .val (.int xb0), .val (.int xb1), .val (.int xb2), .val (.int xb3), .val (.int xb4), .val (.int xb5), .val (.int (Int32.ofNat nA)), .val (.int (Int32.ofNat nB)), .val (.int sA), .val (.int sB), .val (.ref xA), .val (.ref xB), .val (.ref b62), .val (.ref b85), .val (.int (own_same (Int32.ofNat nA) (Int32.ofNat nB) sA sB xa0 xa1 xa2 xa3 xa4 xa5 xb0 xb1 xb2 xb3 xb4 xb5)), .val .null, .val (.ref xA)] [(.ref b62)])) _
    refine XS.aload X116.here hx rfl (hb hby at_392) rfl rfl ?_
    show Steps p.tables e below (T116.setTop (mkF m 394 #[.val (.long vs), .second, .val (.long vt_), .second, .val (.int vlens), .val (.int vssid), .val (.int vpick), .val (.int xa0), .val (.int xa1), .val (.int xa2), .val (.int xa3), .val (.int xa4), .val (.int xa5), .val (.int xb0), .val (.int xb1), .val (.int xb2), .val (.int xb3), .val (.int xb4), .val (.int xb5), .val (.int (Int32.ofNat nA)), .val (.int (Int32.ofNat nB)), .val (.int sA), .val (.int sB), .val (.ref xA), .val (.ref xB), .val (.ref b62), .val (.ref b85), .val (.int (own_same (Int32.ofNat nA) (Int32.ofNat nB) sA sB xa0 xa1 xa2 xa3 xa4 xa5 xb0 xb1 xb2 xb3 xb4 xb5)), .val .null, .val (.ref xA)] [(.ref b85), (.ref b62)])) _
    refine st222.trans ?_
    show Steps p.tables e below (T222.setTop (mkF m 397 #[.val (.long vs), .second, .val (.long vt_), .second, .val (.int vlens), .val (.int vssid), .val (.int vpick), .val (.int xa0), .val (.int xa1), .val (.int xa2), .val (.int xa3), .val (.int xa4), .val (.int xa5), .val (.int xb0), .val (.int xb1), .val (.int xb2), .val (.int xb3), .val (.int xb4), .val (.int xb5), .val (.int (Int32.ofNat nA)), .val (.int (Int32.ofNat nB)), .val (.int sA), .val (.int sB), .val (.ref xA), .val (.ref xB), .val (.ref b62), .val (.ref b85), .val (.int (own_same (Int32.ofNat nA) (Int32.ofNat nB) sA sB xa0 xa1 xa2 xa3 xa4 xa5 xb0 xb1 xb2 xb3 xb4 xb5)), .val .null, .val (.ref xA)] [(.int (own_eq b62 b85 (own_chk (List.take nA ([nar .char xa0, nar .char xa1, nar .char xa2, nar .char xa3, nar .char xa4, nar .char xa5] : List Int32)) 6 0 (0 : Int64)) sA (own_chk (List.take nB ([nar .char xb0, nar .char xb1, nar .char xb2, nar .char xb3, nar .char xb4, nar .char xb5] : List Int32)) 6 0 (0 : Int64)) sB))])) _
    refine XS.iload X222.here hx rfl (hb hby at_397) rfl ?_
    show Steps p.tables e below (T222.setTop (mkF m 399 #[.val (.long vs), .second, .val (.long vt_), .second, .val (.int vlens), .val (.int vssid), .val (.int vpick), .val (.int xa0), .val (.int xa1), .val (.int xa2), .val (.int xa3), .val (.int xa4), .val (.int xa5), .val (.int xb0), .val (.int xb1), .val (.int xb2), .val (.int xb3), .val (.int xb4), .val (.int xb5), .val (.int (Int32.ofNat nA)), .val (.int (Int32.ofNat nB)), .val (.int sA), .val (.int sB), .val (.ref xA), .val (.ref xB), .val (.ref b62), .val (.ref b85), .val (.int (own_same (Int32.ofNat nA) (Int32.ofNat nB) sA sB xa0 xa1 xa2 xa3 xa4 xa5 xb0 xb1 xb2 xb3 xb4 xb5)), .val .null, .val (.ref xA)] [(.int (own_same (Int32.ofNat nA) (Int32.ofNat nB) sA sB xa0 xa1 xa2 xa3 xa4 xa5 xb0 xb1 xb2 xb3 xb4 xb5)), (.int (own_eq b62 b85 (own_chk (List.take nA ([nar .char xa0, nar .char xa1, nar .char xa2, nar .char xa3, nar .char xa4, nar .char xa5] : List Int32)) 6 0 (0 : Int64)) sA (own_chk (List.take nB ([nar .char xb0, nar .char xb1, nar .char xb2, nar .char xb3, nar .char xb4, nar .char xb5] : List Int32)) 6 0 (0 : Int64)) sB))])) _
    refine XS.icmpNo X222.here hx rfl (hb hby at_399) rfl (teq ((own_fin1 a1n a6n b1n b6n oa0 oa1 oa2 oa3 oa4 oa5 ob0 ob1 ob2 ob3 ob4 ob5) : (own_eq b62 b85 (own_chk (List.take nA ([nar .char xa0, nar .char xa1, nar .char xa2, nar .char xa3, nar .char xa4, nar .char xa5] : List Int32)) 6 0 (0 : Int64)) sA (own_chk (List.take nB ([nar .char xb0, nar .char xb1, nar .char xb2, nar .char xb3, nar .char xb4, nar .char xb5] : List Int32)) 6 0 (0 : Int64)) sB) = (own_same (Int32.ofNat nA) (Int32.ofNat nB) sA sB xa0 xa1 xa2 xa3 xa4 xa5 xb0 xb1 xb2 xb3 xb4 xb5))).2 ?_
    show Steps p.tables e below (T222.setTop (mkF m 402 #[.val (.long vs), .second, .val (.long vt_), .second, .val (.int vlens), .val (.int vssid), .val (.int vpick), .val (.int xa0), .val (.int xa1), .val (.int xa2), .val (.int xa3), .val (.int xa4), .val (.int xa5), .val (.int xb0), .val (.int xb1), .val (.int xb2), .val (.int xb3), .val (.int xb4), .val (.int xb5), .val (.int (Int32.ofNat nA)), .val (.int (Int32.ofNat nB)), .val (.int sA), .val (.int sB), .val (.ref xA), .val (.ref xB), .val (.ref b62), .val (.ref b85), .val (.int (own_same (Int32.ofNat nA) (Int32.ofNat nB) sA sB xa0 xa1 xa2 xa3 xa4 xa5 xb0 xb1 xb2 xb3 xb4 xb5)), .val .null, .val (.ref xA)] [])) _
    refine XS.aload X222.here hx rfl (hb hby at_402) rfl rfl ?_
    show Steps p.tables e below (T222.setTop (mkF m 404 #[.val (.long vs), .second, .val (.long vt_), .second, .val (.int vlens), .val (.int vssid), .val (.int vpick), .val (.int xa0), .val (.int xa1), .val (.int xa2), .val (.int xa3), .val (.int xa4), .val (.int xa5), .val (.int xb0), .val (.int xb1), .val (.int xb2), .val (.int xb3), .val (.int xb4), .val (.int xb5), .val (.int (Int32.ofNat nA)), .val (.int (Int32.ofNat nB)), .val (.int sA), .val (.int sB), .val (.ref xA), .val (.ref xB), .val (.ref b62), .val (.ref b85), .val (.int (own_same (Int32.ofNat nA) (Int32.ofNat nB) sA sB xa0 xa1 xa2 xa3 xa4 xa5 xb0 xb1 xb2 xb3 xb4 xb5)), .val .null, .val (.ref xA)] [(.ref b85)])) _
    refine XS.aload X222.here hx rfl (hb hby at_404) rfl rfl ?_
    show Steps p.tables e below (T222.setTop (mkF m 406 #[.val (.long vs), .second, .val (.long vt_), .second, .val (.int vlens), .val (.int vssid), .val (.int vpick), .val (.int xa0), .val (.int xa1), .val (.int xa2), .val (.int xa3), .val (.int xa4), .val (.int xa5), .val (.int xb0), .val (.int xb1), .val (.int xb2), .val (.int xb3), .val (.int xb4), .val (.int xb5), .val (.int (Int32.ofNat nA)), .val (.int (Int32.ofNat nB)), .val (.int sA), .val (.int sB), .val (.ref xA), .val (.ref xB), .val (.ref b62), .val (.ref b85), .val (.int (own_same (Int32.ofNat nA) (Int32.ofNat nB) sA sB xa0 xa1 xa2 xa3 xa4 xa5 xb0 xb1 xb2 xb3 xb4 xb5)), .val .null, .val (.ref xA)] [(.ref b62), (.ref b85)])) _
    refine st223.trans ?_
    show Steps p.tables e below (T223.setTop (mkF m 409 #[.val (.long vs), .second, .val (.long vt_), .second, .val (.int vlens), .val (.int vssid), .val (.int vpick), .val (.int xa0), .val (.int xa1), .val (.int xa2), .val (.int xa3), .val (.int xa4), .val (.int xa5), .val (.int xb0), .val (.int xb1), .val (.int xb2), .val (.int xb3), .val (.int xb4), .val (.int xb5), .val (.int (Int32.ofNat nA)), .val (.int (Int32.ofNat nB)), .val (.int sA), .val (.int sB), .val (.ref xA), .val (.ref xB), .val (.ref b62), .val (.ref b85), .val (.int (own_same (Int32.ofNat nA) (Int32.ofNat nB) sA sB xa0 xa1 xa2 xa3 xa4 xa5 xb0 xb1 xb2 xb3 xb4 xb5)), .val .null, .val (.ref xA)] [(.int (own_eq b85 b62 (own_chk (List.take nB ([nar .char xb0, nar .char xb1, nar .char xb2, nar .char xb3, nar .char xb4, nar .char xb5] : List Int32)) 6 0 (0 : Int64)) sB (own_chk (List.take nA ([nar .char xa0, nar .char xa1, nar .char xa2, nar .char xa3, nar .char xa4, nar .char xa5] : List Int32)) 6 0 (0 : Int64)) sA))])) _
    refine XS.iload X223.here hx rfl (hb hby at_409) rfl ?_
    show Steps p.tables e below (T223.setTop (mkF m 411 #[.val (.long vs), .second, .val (.long vt_), .second, .val (.int vlens), .val (.int vssid), .val (.int vpick), .val (.int xa0), .val (.int xa1), .val (.int xa2), .val (.int xa3), .val (.int xa4), .val (.int xa5), .val (.int xb0), .val (.int xb1), .val (.int xb2), .val (.int xb3), .val (.int xb4), .val (.int xb5), .val (.int (Int32.ofNat nA)), .val (.int (Int32.ofNat nB)), .val (.int sA), .val (.int sB), .val (.ref xA), .val (.ref xB), .val (.ref b62), .val (.ref b85), .val (.int (own_same (Int32.ofNat nA) (Int32.ofNat nB) sA sB xa0 xa1 xa2 xa3 xa4 xa5 xb0 xb1 xb2 xb3 xb4 xb5)), .val .null, .val (.ref xA)] [(.int (own_same (Int32.ofNat nA) (Int32.ofNat nB) sA sB xa0 xa1 xa2 xa3 xa4 xa5 xb0 xb1 xb2 xb3 xb4 xb5)), (.int (own_eq b85 b62 (own_chk (List.take nB ([nar .char xb0, nar .char xb1, nar .char xb2, nar .char xb3, nar .char xb4, nar .char xb5] : List Int32)) 6 0 (0 : Int64)) sB (own_chk (List.take nA ([nar .char xa0, nar .char xa1, nar .char xa2, nar .char xa3, nar .char xa4, nar .char xa5] : List Int32)) 6 0 (0 : Int64)) sA))])) _
    refine XS.icmpNo X223.here hx rfl (hb hby at_411) rfl (teq ((own_fin2 a1n a6n b1n b6n oa0 oa1 oa2 oa3 oa4 oa5 ob0 ob1 ob2 ob3 ob4 ob5) : (own_eq b85 b62 (own_chk (List.take nB ([nar .char xb0, nar .char xb1, nar .char xb2, nar .char xb3, nar .char xb4, nar .char xb5] : List Int32)) 6 0 (0 : Int64)) sB (own_chk (List.take nA ([nar .char xa0, nar .char xa1, nar .char xa2, nar .char xa3, nar .char xa4, nar .char xa5] : List Int32)) 6 0 (0 : Int64)) sA) = (own_same (Int32.ofNat nA) (Int32.ofNat nB) sA sB xa0 xa1 xa2 xa3 xa4 xa5 xb0 xb1 xb2 xb3 xb4 xb5))).2 ?_
    show Steps p.tables e below (T223.setTop (mkF m 414 #[.val (.long vs), .second, .val (.long vt_), .second, .val (.int vlens), .val (.int vssid), .val (.int vpick), .val (.int xa0), .val (.int xa1), .val (.int xa2), .val (.int xa3), .val (.int xa4), .val (.int xa5), .val (.int xb0), .val (.int xb1), .val (.int xb2), .val (.int xb3), .val (.int xb4), .val (.int xb5), .val (.int (Int32.ofNat nA)), .val (.int (Int32.ofNat nB)), .val (.int sA), .val (.int sB), .val (.ref xA), .val (.ref xB), .val (.ref b62), .val (.ref b85), .val (.int (own_same (Int32.ofNat nA) (Int32.ofNat nB) sA sB xa0 xa1 xa2 xa3 xa4 xa5 xb0 xb1 xb2 xb3 xb4 xb5)), .val .null, .val (.ref xA)] [])) _
    refine XS.aload X223.here hx rfl (hb hby at_414) rfl rfl ?_
    show Steps p.tables e below (T223.setTop (mkF m 416 #[.val (.long vs), .second, .val (.long vt_), .second, .val (.int vlens), .val (.int vssid), .val (.int vpick), .val (.int xa0), .val (.int xa1), .val (.int xa2), .val (.int xa3), .val (.int xa4), .val (.int xa5), .val (.int xb0), .val (.int xb1), .val (.int xb2), .val (.int xb3), .val (.int xb4), .val (.int xb5), .val (.int (Int32.ofNat nA)), .val (.int (Int32.ofNat nB)), .val (.int sA), .val (.int sB), .val (.ref xA), .val (.ref xB), .val (.ref b62), .val (.ref b85), .val (.int (own_same (Int32.ofNat nA) (Int32.ofNat nB) sA sB xa0 xa1 xa2 xa3 xa4 xa5 xb0 xb1 xb2 xb3 xb4 xb5)), .val .null, .val (.ref xA)] [(.ref b62)])) _
    refine XS.aload X223.here hx rfl (hb hby at_416) rfl rfl ?_
    show Steps p.tables e below (T223.setTop (mkF m 418 #[.val (.long vs), .second, .val (.long vt_), .second, .val (.int vlens), .val (.int vssid), .val (.int vpick), .val (.int xa0), .val (.int xa1), .val (.int xa2), .val (.int xa3), .val (.int xa4), .val (.int xa5), .val (.int xb0), .val (.int xb1), .val (.int xb2), .val (.int xb3), .val (.int xb4), .val (.int xb5), .val (.int (Int32.ofNat nA)), .val (.int (Int32.ofNat nB)), .val (.int sA), .val (.int sB), .val (.ref xA), .val (.ref xB), .val (.ref b62), .val (.ref b85), .val (.int (own_same (Int32.ofNat nA) (Int32.ofNat nB) sA sB xa0 xa1 xa2 xa3 xa4 xa5 xb0 xb1 xb2 xb3 xb4 xb5)), .val .null, .val (.ref xA)] [(.ref b62), (.ref b62)])) _
    refine st224.trans ?_
    show Steps p.tables e below (T224.setTop (mkF m 421 #[.val (.long vs), .second, .val (.long vt_), .second, .val (.int vlens), .val (.int vssid), .val (.int vpick), .val (.int xa0), .val (.int xa1), .val (.int xa2), .val (.int xa3), .val (.int xa4), .val (.int xa5), .val (.int xb0), .val (.int xb1), .val (.int xb2), .val (.int xb3), .val (.int xb4), .val (.int xb5), .val (.int (Int32.ofNat nA)), .val (.int (Int32.ofNat nB)), .val (.int sA), .val (.int sB), .val (.ref xA), .val (.ref xB), .val (.ref b62), .val (.ref b85), .val (.int (own_same (Int32.ofNat nA) (Int32.ofNat nB) sA sB xa0 xa1 xa2 xa3 xa4 xa5 xb0 xb1 xb2 xb3 xb4 xb5)), .val .null, .val (.ref xA)] [(.int (own_eq b62 b62 (own_chk (List.take nA ([nar .char xa0, nar .char xa1, nar .char xa2, nar .char xa3, nar .char xa4, nar .char xa5] : List Int32)) 6 0 (0 : Int64)) sA (own_chk (List.take nA ([nar .char xa0, nar .char xa1, nar .char xa2, nar .char xa3, nar .char xa4, nar .char xa5] : List Int32)) 6 0 (0 : Int64)) sA))])) _
    refine XS.ifNo X224.here hx rfl (hb hby at_421) rfl ((if0 _ _).trans (feq ((by rw [own_eq_self]; decide) : ¬ ((own_eq b62 b62 (own_chk (List.take nA ([nar .char xa0, nar .char xa1, nar .char xa2, nar .char xa3, nar .char xa4, nar .char xa5] : List Int32)) 6 0 (0 : Int64)) sA (own_chk (List.take nA ([nar .char xa0, nar .char xa1, nar .char xa2, nar .char xa3, nar .char xa4, nar .char xa5] : List Int32)) 6 0 (0 : Int64)) sA) = (0 : Int32)))).1) ?_
    show Steps p.tables e below (T224.setTop (mkF m 424 #[.val (.long vs), .second, .val (.long vt_), .second, .val (.int vlens), .val (.int vssid), .val (.int vpick), .val (.int xa0), .val (.int xa1), .val (.int xa2), .val (.int xa3), .val (.int xa4), .val (.int xa5), .val (.int xb0), .val (.int xb1), .val (.int xb2), .val (.int xb3), .val (.int xb4), .val (.int xb5), .val (.int (Int32.ofNat nA)), .val (.int (Int32.ofNat nB)), .val (.int sA), .val (.int sB), .val (.ref xA), .val (.ref xB), .val (.ref b62), .val (.ref b85), .val (.int (own_same (Int32.ofNat nA) (Int32.ofNat nB) sA sB xa0 xa1 xa2 xa3 xa4 xa5 xb0 xb1 xb2 xb3 xb4 xb5)), .val .null, .val (.ref xA)] [])) _
    refine XS.aload X224.here hx rfl (hb hby at_424) rfl rfl ?_
    show Steps p.tables e below (T224.setTop (mkF m 426 #[.val (.long vs), .second, .val (.long vt_), .second, .val (.int vlens), .val (.int vssid), .val (.int vpick), .val (.int xa0), .val (.int xa1), .val (.int xa2), .val (.int xa3), .val (.int xa4), .val (.int xa5), .val (.int xb0), .val (.int xb1), .val (.int xb2), .val (.int xb3), .val (.int xb4), .val (.int xb5), .val (.int (Int32.ofNat nA)), .val (.int (Int32.ofNat nB)), .val (.int sA), .val (.int sB), .val (.ref xA), .val (.ref xB), .val (.ref b62), .val (.ref b85), .val (.int (own_same (Int32.ofNat nA) (Int32.ofNat nB) sA sB xa0 xa1 xa2 xa3 xa4 xa5 xb0 xb1 xb2 xb3 xb4 xb5)), .val .null, .val (.ref xA)] [(.ref b62)])) _
    refine XS.aload X224.here hx rfl (hb hby at_426) rfl rfl ?_
    show Steps p.tables e below (T224.setTop (mkF m 428 #[.val (.long vs), .second, .val (.long vt_), .second, .val (.int vlens), .val (.int vssid), .val (.int vpick), .val (.int xa0), .val (.int xa1), .val (.int xa2), .val (.int xa3), .val (.int xa4), .val (.int xa5), .val (.int xb0), .val (.int xb1), .val (.int xb2), .val (.int xb3), .val (.int xb4), .val (.int xb5), .val (.int (Int32.ofNat nA)), .val (.int (Int32.ofNat nB)), .val (.int sA), .val (.int sB), .val (.ref xA), .val (.ref xB), .val (.ref b62), .val (.ref b85), .val (.int (own_same (Int32.ofNat nA) (Int32.ofNat nB) sA sB xa0 xa1 xa2 xa3 xa4 xa5 xb0 xb1 xb2 xb3 xb4 xb5)), .val .null, .val (.ref xA)] [.null, (.ref b62)])) _
    refine st225.trans ?_
    show Steps p.tables e below (T225.setTop (mkF m 431 #[.val (.long vs), .second, .val (.long vt_), .second, .val (.int vlens), .val (.int vssid), .val (.int vpick), .val (.int xa0), .val (.int xa1), .val (.int xa2), .val (.int xa3), .val (.int xa4), .val (.int xa5), .val (.int xb0), .val (.int xb1), .val (.int xb2), .val (.int xb3), .val (.int xb4), .val (.int xb5), .val (.int (Int32.ofNat nA)), .val (.int (Int32.ofNat nB)), .val (.int sA), .val (.int sB), .val (.ref xA), .val (.ref xB), .val (.ref b62), .val (.ref b85), .val (.int (own_same (Int32.ofNat nA) (Int32.ofNat nB) sA sB xa0 xa1 xa2 xa3 xa4 xa5 xb0 xb1 xb2 xb3 xb4 xb5)), .val .null, .val (.ref xA)] [(.int (0 : Int32))])) _
    refine XS.ifNo X225.here hx rfl (hb hby at_431) rfl ((if0 _ _).trans (teq (rfl : (0 : Int32) = (0 : Int32))).2) ?_
    show Steps p.tables e below (T225.setTop (mkF m 434 #[.val (.long vs), .second, .val (.long vt_), .second, .val (.int vlens), .val (.int vssid), .val (.int vpick), .val (.int xa0), .val (.int xa1), .val (.int xa2), .val (.int xa3), .val (.int xa4), .val (.int xa5), .val (.int xb0), .val (.int xb1), .val (.int xb2), .val (.int xb3), .val (.int xb4), .val (.int xb5), .val (.int (Int32.ofNat nA)), .val (.int (Int32.ofNat nB)), .val (.int sA), .val (.int sB), .val (.ref xA), .val (.ref xB), .val (.ref b62), .val (.ref b85), .val (.int (own_same (Int32.ofNat nA) (Int32.ofNat nB) sA sB xa0 xa1 xa2 xa3 xa4 xa5 xb0 xb1 xb2 xb3 xb4 xb5)), .val .null, .val (.ref xA)] [])) _
    refine XS.aload X225.here hx rfl (hb hby at_434) rfl rfl ?_
    show Steps p.tables e below (T225.setTop (mkF m 436 #[.val (.long vs), .second, .val (.long vt_), .second, .val (.int vlens), .val (.int vssid), .val (.int vpick), .val (.int xa0), .val (.int xa1), .val (.int xa2), .val (.int xa3), .val (.int xa4), .val (.int xa5), .val (.int xb0), .val (.int xb1), .val (.int xb2), .val (.int xb3), .val (.int xb4), .val (.int xb5), .val (.int (Int32.ofNat nA)), .val (.int (Int32.ofNat nB)), .val (.int sA), .val (.int sB), .val (.ref xA), .val (.ref xB), .val (.ref b62), .val (.ref b85), .val (.int (own_same (Int32.ofNat nA) (Int32.ofNat nB) sA sB xa0 xa1 xa2 xa3 xa4 xa5 xb0 xb1 xb2 xb3 xb4 xb5)), .val .null, .val (.ref xA)] [(.ref b62)])) _
    refine XS.aload X225.here hx rfl (hb hby at_436) rfl rfl ?_
    show Steps p.tables e below (T225.setTop (mkF m 438 #[.val (.long vs), .second, .val (.long vt_), .second, .val (.int vlens), .val (.int vssid), .val (.int vpick), .val (.int xa0), .val (.int xa1), .val (.int xa2), .val (.int xa3), .val (.int xa4), .val (.int xa5), .val (.int xb0), .val (.int xb1), .val (.int xb2), .val (.int xb3), .val (.int xb4), .val (.int xb5), .val (.int (Int32.ofNat nA)), .val (.int (Int32.ofNat nB)), .val (.int sA), .val (.int sB), .val (.ref xA), .val (.ref xB), .val (.ref b62), .val (.ref b85), .val (.int (own_same (Int32.ofNat nA) (Int32.ofNat nB) sA sB xa0 xa1 xa2 xa3 xa4 xa5 xb0 xb1 xb2 xb3 xb4 xb5)), .val .null, .val (.ref xA)] [(.ref xA), (.ref b62)])) _
    refine st226.trans ?_
    show Steps p.tables e below (T226.setTop (mkF m 441 #[.val (.long vs), .second, .val (.long vt_), .second, .val (.int vlens), .val (.int vssid), .val (.int vpick), .val (.int xa0), .val (.int xa1), .val (.int xa2), .val (.int xa3), .val (.int xa4), .val (.int xa5), .val (.int xb0), .val (.int xb1), .val (.int xb2), .val (.int xb3), .val (.int xb4), .val (.int xb5), .val (.int (Int32.ofNat nA)), .val (.int (Int32.ofNat nB)), .val (.int sA), .val (.int sB), .val (.ref xA), .val (.ref xB), .val (.ref b62), .val (.ref b85), .val (.int (own_same (Int32.ofNat nA) (Int32.ofNat nB) sA sB xa0 xa1 xa2 xa3 xa4 xa5 xb0 xb1 xb2 xb3 xb4 xb5)), .val .null, .val (.ref xA)] [(.int (0 : Int32))])) _
    refine XS.ifNo X226.here hx rfl (hb hby at_441) rfl ((if0 _ _).trans (teq (rfl : (0 : Int32) = (0 : Int32))).2) ?_
    show Steps p.tables e below (T226.setTop (mkF m 444 #[.val (.long vs), .second, .val (.long vt_), .second, .val (.int vlens), .val (.int vssid), .val (.int vpick), .val (.int xa0), .val (.int xa1), .val (.int xa2), .val (.int xa3), .val (.int xa4), .val (.int xa5), .val (.int xb0), .val (.int xb1), .val (.int xb2), .val (.int xb3), .val (.int xb4), .val (.int xb5), .val (.int (Int32.ofNat nA)), .val (.int (Int32.ofNat nB)), .val (.int sA), .val (.int sB), .val (.ref xA), .val (.ref xB), .val (.ref b62), .val (.ref b85), .val (.int (own_same (Int32.ofNat nA) (Int32.ofNat nB) sA sB xa0 xa1 xa2 xa3 xa4 xa5 xb0 xb1 xb2 xb3 xb4 xb5)), .val .null, .val (.ref xA)] [])) _
    refine XS.iconst X226.here hx rfl (hb hby at_444) ?_
    show Steps p.tables e below (T226.setTop (mkF m 445 #[.val (.long vs), .second, .val (.long vt_), .second, .val (.int vlens), .val (.int vssid), .val (.int vpick), .val (.int xa0), .val (.int xa1), .val (.int xa2), .val (.int xa3), .val (.int xa4), .val (.int xa5), .val (.int xb0), .val (.int xb1), .val (.int xb2), .val (.int xb3), .val (.int xb4), .val (.int xb5), .val (.int (Int32.ofNat nA)), .val (.int (Int32.ofNat nB)), .val (.int sA), .val (.int sB), .val (.ref xA), .val (.ref xB), .val (.ref b62), .val (.ref b85), .val (.int (own_same (Int32.ofNat nA) (Int32.ofNat nB) sA sB xa0 xa1 xa2 xa3 xa4 xa5 xb0 xb1 xb2 xb3 xb4 xb5)), .val .null, .val (.ref xA)] [(.int (1 : Int32))])) _
    refine XS.goto X226.here hx rfl (pc0 := 445) (pc' := 449) rfl (hb hby at_445) (by decide) (by decide) ?_
    show Steps p.tables e below (T226.setTop (mkF m 449 #[.val (.long vs), .second, .val (.long vt_), .second, .val (.int vlens), .val (.int vssid), .val (.int vpick), .val (.int xa0), .val (.int xa1), .val (.int xa2), .val (.int xa3), .val (.int xa4), .val (.int xa5), .val (.int xb0), .val (.int xb1), .val (.int xb2), .val (.int xb3), .val (.int xb4), .val (.int xb5), .val (.int (Int32.ofNat nA)), .val (.int (Int32.ofNat nB)), .val (.int sA), .val (.int sB), .val (.ref xA), .val (.ref xB), .val (.ref b62), .val (.ref b85), .val (.int (own_same (Int32.ofNat nA) (Int32.ofNat nB) sA sB xa0 xa1 xa2 xa3 xa4 xa5 xb0 xb1 xb2 xb3 xb4 xb5)), .val .null, .val (.ref xA)] [(.int (1 : Int32))])) _
    exact retN X226 hx (t := .boolean) Bd.returns (by simp) (hb hby at_449) hr
  ·
    show Q0 Z vs vt_ vlens vssid vpick vz fm h0 n0 _ T226.heap _
    rw [e226q]
    exact ⟨rfl, N226⟩
set_option maxRecDepth 65536 in
set_option maxHeartbeats 40000000 in
theorem comes_1 {Post : Tables → Env → Array Value → State → Outcome → State → Prop} (hpost : ∀ tb e args s v u, (limb_1_1.after args s (.returned v) u = true ∧ limb_1_2.after args s (.returned v) u = true ∧ True) → FrameEnd s (.returned v) u (Jvm.fieldLocs frame_1_writes args s ++ Jvm.arrayLocs frame_1_arrays args s ++ Jvm.staticLocs frame_1_statics s) 24 192 → Post tb e args s (.returned v) u) :
    ArmFor flags0 classFile x code maxLocals ret World_1 tables_1 room_1 Calls_1 rest_1 Pre_1 Post := by
  intro l hfl _ _ p e ha hc hk s m args below hf hA hF happ hP
  obtain ⟨hcalls, hrest, hpre⟩ := hP
  obtain ⟨-, -, -, hnamed, -, -, -, hat⟩ := (Spec.applies_iff hf).mp happ
  obtain ⟨hg, hn⟩ := and_e (Cond.before_iff.mp (show (Jvm.Cond.and given_1 narrow_1).before args s = true from hpre))
  obtain ⟨g1a, g1b⟩ := and_e hg
  obtain ⟨g2a, g2b⟩ := and_e g1b
  obtain ⟨g3a, g3b⟩ := and_e g2b
  obtain ⟨g4a, g4b⟩ := and_e g3b
  obtain ⟨g5a, g5b⟩ := and_e g4b
  obtain ⟨w0, w1, w2, w3, w4, rfl⟩ : ∃ w0 w1 w2 w3 w4 : Value, args = #[w0, w1, w2, w3, w4] := by
    have hs : args.size = 5 := by simpa [Cond.value, given_1] using g1a
    obtain ⟨L⟩ := args
    match L, hs with
    | [w0, w1, w2, w3, w4], _ => exact ⟨w0, w1, w2, w3, w4, rfl⟩
  have hw := fun d (hd : d ∈ tables_1) => atoms_spec (ws := Jvm.Cond.code x code maxLocals ret :: tables_1) hat d (List.mem_cons_of_mem _ hd)
  have hfit : Fit s := fun {y c} hc i hi => by
    obtain ⟨ha, rfl⟩ := Array.getElem?_eq_some_iff.mp hc
    have q := List.all_eq_true.mp ((Array.all_eq_true_iff_forall_mem.mp hF) _ (Array.getElem_mem ha)) i (List.mem_range.mpr hi)
    simpa [Array.getElem?_eq_getElem hi] using q
  obtain ⟨hsets, hown0⟩ := atoms_of _ (rest_1_c_eq ▸ (show rest_1_c.before _ s = true from hrest))
  have hr0 := Cond.before_iff.mp hown0
  obtain ⟨vs, ei0⟩ := isL_v g2a
  obtain rfl : w0 = (.long vs) := Option.some.inj ei0
  obtain ⟨vt_, ei1⟩ := isL_v g3a
  obtain rfl : w1 = (.long vt_) := Option.some.inj ei1
  obtain ⟨vlens, ei2⟩ := is_v g4a
  obtain rfl : w2 = (.int vlens) := Option.some.inj ei2
  obtain ⟨vssid, ei3⟩ := is_v g5a
  obtain rfl : w3 = (.int vssid) := Option.some.inj ei3
  obtain ⟨vpick, ei4⟩ := is_v g5b
  obtain rfl : w4 = (.int vpick) := Option.some.inj ei4
  have n5 := not_v (Cond.before_iff.mp (hsets _ (List.mem_of_getElem? (i := 2) rfl)))
  obtain ⟨vz, ez⟩ := is_v (Cond.before_iff.mp (hsets _ (List.mem_of_getElem? (i := 1) rfl)))
  have S_cs : Sta s s.heap "java/lang/String" "COMPACT_STRINGS" "Z" (.int vz) := Sta.start ez (Or.inl (hsets _ (List.mem_of_getElem? (i := 0) rfl)))
  have hcs : ¬ vz = 0 := gotF (Cond.eq_ints ez (Term.int_eval (0))) n5
  obtain ⟨fm, efm, rfm⟩ := isR_v (Cond.before_iff.mp (hsets _ (List.mem_of_getElem? (i := 8) rfl)))
  have S_fm : Sta s s.heap "jdk/internal/util/Preconditions" "SIOOBE_FORMATTER" "Ljava/util/function/BiFunction;" fm := Sta.start efm (Or.inl (hsets _ (List.mem_of_getElem? (i := 7) rfl)))
  obtain ⟨n, o, h1, h2, h3, _, L, rfl, ⟨rfl, N⟩, hq⟩ := rm0 l s _ hw tables_1 vs vt_ vlens vssid vpick vz fm s.heap s.heap.size (Nat.le_refl _) S_cs S_fm hcs rfm p e ha hc hk s m _ below hf ((Spec.applies_iff_loose hf).mp happ).1 ⟨rfl, State.Warmed39.refl s, rfl⟩ trivial
  refine ⟨n, _, h1, h2, h3, hpost _ _ _ _ _ _ ⟨Cond.after_iff.mpr rfl, Cond.after_iff.mpr (eq_i res_at (Term.int_eval (1)) rfl), trivial⟩ ⟨hq.1, hq.2.1, (hq.2.2.sift fun y hy => Or.inr (N y hy)).mono (by decide) (by decide)⟩⟩
theorem main_1_1 : Claimed_1_1 := comes_1 fun _ _ _ _ _ _ h hF => ⟨h.1, hF⟩
theorem main_1_2 : Claimed_1_2 := comes_1 fun _ _ _ _ _ _ h hF => ⟨h.2.1, hF⟩
end Jvm.Pilot.@@N@@
namespace Jvm.Pilot.@@N@@
open Jvm Jvm.ClassFile Sem Op Lib Jvm.Free Jvm.Stand Jvm.Pilot.@@N@@.Jvm.D
/-! MADE BY PROGRAM (witnessworld.py) out of the Statement's table words and the real class files: 20 classes; the members and pool entries that the words name. The judged class is class 1, her method 3. -/
namespace start1
open Jvm.ClassFile
def u (s : String) : CpInfo := .utf8 (stringToUtf16 s)
/-- a pool by its gaps: so many unusable entries, then the entry; so many at the end -/
def gap : Nat → List CpInfo → List CpInfo
  | 0, r => r
  | n + 1, r => .unusable :: gap n r
def poolList (es : List (Nat × CpInfo)) (last : Nat) : List CpInfo := es.foldr (fun e r => gap e.1 (e.2 :: r)) (gap last [])
def pool (es : List (Nat × CpInfo)) (last : Nat) : Array CpInfo := ⟨poolList es last⟩
def fileOf (pool : Array CpInfo) (this : Nat) (attrs : Array Attribute := #[]) (ms : Array MethodInfo := #[]) (fl : Nat := 33) (sup : Nat := 0) (ifs : Array Nat := #[]) (fds : Array FieldInfo := #[]) : ClassFile where
  minorVersion := 0
  majorVersion := 65
  constantPool := pool
  accessFlags := fl
  thisClass := this
  superClass := sup
  interfaces := ifs
  fields := fds
  methods := ms
  attributes := attrs
def plain (name : String) (sup : Option ClassId) : Class where
  name := name
  kind := .ordinary
  loader := none
  accessFlags := 33
  super := sup
  interfaces := #[]
  cf := none
  fields := #[]
  methods := #[]
  instanceTypes := #[]
  staticTypes := #[]
  resolved := #[]
  callSites := []
  init := .initialized
  statics := none
  mirror := none

def pool0 : Array CpInfo := pool [(5, u "<init>"), (0, u "()V"), (1, .class_ 10), (1, u "java/lang/Object")] 113

def k0c0 : Code := { maxStack := 0, maxLocals := 1, code := object_method_1_code, exceptionTable := #[], attributes := #[] }
def k0m0 : Method := { name := "<init>", desc := "()V", sig := { parameters := [], returnType := none }, accessFlags := 1, code := some k0c0 }
/-- java/lang/Object -/
def k0 : Class := { plain "java/lang/Object" none with
  accessFlags := 33
  interfaces := #[]
  cf := some (fileOf pool0 8 #[] #[{ accessFlags := 1, nameIndex := 5, descriptorIndex := 6, attributes := #[] }] 33 0 #[] #[])
  fields := #[]
  methods := #[k0m0]
  instanceTypes := #[]
  staticTypes := #[]
  resolved := Array.replicate 124 none
  statics := none }

def pool1 : Array CpInfo := pool [(2, .class_ 4), (1, u "java/lang/Object"), (0, u "<init>"), (0, u "()V"), (0, .long 63), (1, .class_ 10), (0, u "java/lang/String"), (0, .methodref 9 12), (0, .nameAndType 5 13), (0, u "([C)V"), (0, .methodref 15 16), (0, .class_ 17), (0, .nameAndType 18 19), (0, u "com/example/packet_radio_link/packetradiolink/frame/AddressEqualsPinLaw"), (0, u "ch"), (0, u "(JI)C"), (0, .integer 2147483647), (0, .methodref 15 22), (0, .nameAndType 23 24), (0, u "str"), (0, u "(CCCCCCI)Ljava/lang/String;"), (0, .class_ 26), (0, u "com/example/packet_radio_link/packetradiolink/frame/Address"), (0, .methodref 25 28), (0, .nameAndType 5 29), (0, u "(Ljava/lang/String;I)V"), (0, .methodref 25 31), (0, .nameAndType 32 33), (0, u "equals"), (0, u "(Ljava/lang/Object;)Z"), (3, u "law"), (0, u "(JJIII)Z")] 2

def k1m0 : Method := { name := "<init>", desc := "()V", sig := { parameters := [], returnType := none }, accessFlags := 1, code := none }
def k1c1 : Code := { maxStack := 4, maxLocals := 4, code := method_2_code, exceptionTable := #[], attributes := #[] }
def k1m1 : Method := { name := "ch", desc := "(JI)C", sig := { parameters := [.long, .int], returnType := some .char }, accessFlags := 10, code := some k1c1 }
def k1c2 : Code := { maxStack := 6, maxLocals := 7, code := method_3_code, exceptionTable := #[], attributes := #[] }
def k1m2 : Method := { name := "str", desc := "(CCCCCCI)Ljava/lang/String;", sig := { parameters := [.char, .char, .char, .char, .char, .char, .int], returnType := some (.object "java/lang/String") }, accessFlags := 10, code := some k1c2 }
def k1c3 : Code := { maxStack := 7, maxLocals := 30, code := code, exceptionTable := #[], attributes := #[] }
def k1m3 : Method := { name := "law", desc := "(JJIII)Z", sig := { parameters := [.long, .long, .int, .int, .int], returnType := some .boolean }, accessFlags := 9, code := some k1c3 }
/-- com/example/packet_radio_link/packetradiolink/frame/AddressEqualsPinLaw -/
def k1 : Class := { plain "com/example/packet_radio_link/packetradiolink/frame/AddressEqualsPinLaw" (some 0) with
  accessFlags := 49
  interfaces := #[]
  cf := some (fileOf pool1 15 #[] #[{ accessFlags := 1, nameIndex := 5, descriptorIndex := 6, attributes := #[] }, { accessFlags := 10, nameIndex := 18, descriptorIndex := 19, attributes := #[] }, { accessFlags := 10, nameIndex := 23, descriptorIndex := 24, attributes := #[] }, { accessFlags := 9, nameIndex := 37, descriptorIndex := 38, attributes := #[] }] 49 2 #[] #[])
  fields := #[]
  methods := #[k1m0, k1m1, k1m2, k1m3]
  instanceTypes := #[]
  staticTypes := #[]
  resolved := Array.replicate 41 none
  statics := none }

def pool2 : Array CpInfo := pool [(1, .class_ 2), (0, u "java/io/Serializable"), (0, .class_ 4), (0, u "java/lang/Object")] 2

/-- java/io/Serializable -/
def k2 : Class := { plain "java/io/Serializable" (some 0) with
  accessFlags := 1537
  interfaces := #[]
  cf := some (fileOf pool2 1 #[] #[] 1537 3 #[] #[])
  fields := #[]
  methods := #[]
  instanceTypes := #[]
  staticTypes := #[]
  resolved := Array.replicate 7 none
  statics := none }

def pool3 : Array CpInfo := pool [(1, .class_ 2), (0, u "java/lang/Comparable"), (0, .class_ 4), (0, u "java/lang/Object")] 7

/-- java/lang/Comparable -/
def k3 : Class := { plain "java/lang/Comparable" (some 0) with
  accessFlags := 1537
  interfaces := #[]
  cf := some (fileOf pool3 1 #[] #[] 1537 3 #[] #[])
  fields := #[]
  methods := #[]
  instanceTypes := #[]
  staticTypes := #[]
  resolved := Array.replicate 12 none
  statics := none }

def pool4 : Array CpInfo := pool [(2, .class_ 4), (1, u "java/lang/CharSequence"), (42, .class_ 48), (0, u "java/lang/CharSequence$1CodePointIterator"), (10, .class_ 60), (0, u "java/lang/CharSequence$1CharIterator"), (5, .class_ 67), (0, u "java/lang/Object")] 63

/-- java/lang/CharSequence -/
def k4 : Class := { plain "java/lang/CharSequence" (some 0) with
  accessFlags := 1537
  interfaces := #[]
  cf := some (fileOf pool4 2 #[.nestMembers #[47, 59]] #[] 1537 66 #[] #[])
  fields := #[]
  methods := #[]
  instanceTypes := #[]
  staticTypes := #[]
  resolved := Array.replicate 131 none
  statics := none }

def pool5 : Array CpInfo := pool [(1, .class_ 2), (0, u "java/lang/constant/Constable"), (0, .class_ 4), (0, u "java/lang/Object")] 6

/-- java/lang/constant/Constable -/
def k5 : Class := { plain "java/lang/constant/Constable" (some 0) with
  accessFlags := 1537
  interfaces := #[]
  cf := some (fileOf pool5 1 #[] #[] 1537 3 #[] #[])
  fields := #[]
  methods := #[]
  instanceTypes := #[]
  staticTypes := #[]
  resolved := Array.replicate 11 none
  statics := none }

def pool6 : Array CpInfo := pool [(1, .class_ 2), (0, u "java/lang/constant/ConstantDesc"), (0, .class_ 4), (0, u "java/lang/Object")] 32

/-- java/lang/constant/ConstantDesc -/
def k6 : Class := { plain "java/lang/constant/ConstantDesc" (some 0) with
  accessFlags := 1537
  interfaces := #[]
  cf := some (fileOf pool6 1 #[] #[] 1537 3 #[] #[])
  fields := #[]
  methods := #[]
  instanceTypes := #[]
  staticTypes := #[]
  resolved := Array.replicate 37 none
  statics := none }

def pool7 : Array CpInfo := pool [(1, .methodref 2 3), (0, .class_ 4), (0, .nameAndType 5 6), (0, u "java/lang/Object"), (0, u "<init>"), (0, u "()V"), (2, .fieldref 10 11), (0, .class_ 12), (0, .nameAndType 13 14), (0, u "java/lang/String"), (0, u "value"), (0, u "[B"), (0, .fieldref 10 16), (0, .nameAndType 17 18), (0, u "coder"), (0, u "B"), (2, u "hash"), (0, u "I"), (2, u "hashIsZero"), (0, u "Z"), (0, .methodref 10 28), (0, .nameAndType 5 29), (0, u "([CIILjava/lang/Void;)V"), (8, .fieldref 10 39), (0, .nameAndType 40 26), (0, u "COMPACT_STRINGS"), (1, .class_ 44), (1, u "java/lang/StringUTF16"), (0, u "compress"), (1, .methodref 42 48), (0, .nameAndType 49 50), (0, u "coderFromArrayLen"), (0, u "([BI)B"), (56, .class_ 109), (1, u "java/lang/StringLatin1"), (32, u "()Z"), (34, .methodref 42 178), (0, .nameAndType 45 179), (0, u "([CII)[B"), (154, u "()I"), (0, .methodref 10 336), (0, .nameAndType 17 337), (0, u "()B"), (25, u "([BI)C"), (27, u "(II)V"), (35, u "(I)C"), (64, .methodref 10 493), (0, .nameAndType 494 142), (0, u "isLatin1"), (0, .methodref 107 496), (0, .nameAndType 497 363), (0, u "charAt"), (3, u "checkIndex"), (5, u "length"), (67, .class_ 576), (0, u "java/lang/CharSequence"), (22, u "CASE_INSENSITIVE_ORDER"), (0, u "Ljava/util/Comparator;"), (91, u "isEmpty"), (317, u "([C)V"), (42, .fieldref 1054 1055), (0, .class_ 1056), (0, .nameAndType 1057 1058), (0, u "jdk/internal/util/Preconditions"), (0, u "SIOOBE_FORMATTER"), (0, u "Ljava/util/function/BiFunction;"), (0, .methodref 1054 1060), (0, .nameAndType 501 1061), (0, u "(IILjava/util/function/BiFunction;)I"), (39, u "serialPersistentFields"), (0, u "[Ljava/io/ObjectStreamField;"), (0, .class_ 1104), (0, u "java/lang/String$CaseInsensitiveComparator"), (1, .class_ 1107), (0, u "java/io/Serializable"), (0, .class_ 1109), (0, u "java/lang/Comparable"), (0, .class_ 1111), (0, u "java/lang/constant/Constable"), (0, .class_ 1113), (0, u "java/lang/constant/ConstantDesc"), (2, u "serialVersionUID"), (0, u "J"), (3, u "REPL"), (0, u "C"), (2, u "LATIN1"), (1, u "UTF16")] 323

def k7m0 : Method := { name := "<init>", desc := "()V", sig := { parameters := [], returnType := none }, accessFlags := 1, code := none }
def k7c1 : Code := { maxStack := 5, maxLocals := 2, code := jdk_42_method_3_code, exceptionTable := #[], attributes := #[] }
def k7m1 : Method := { name := "<init>", desc := "([C)V", sig := { parameters := [(.array .char)], returnType := none }, accessFlags := 1, code := some k7c1 }
def k7c2 : Code := { maxStack := 2, maxLocals := 1, code := jdk_42_method_54_code, exceptionTable := #[], attributes := #[] }
def k7m2 : Method := { name := "length", desc := "()I", sig := { parameters := [], returnType := some .int }, accessFlags := 1, code := some k7c2 }
def k7c3 : Code := { maxStack := 1, maxLocals := 1, code := jdk_42_method_55_code, exceptionTable := #[], attributes := #[] }
def k7m3 : Method := { name := "isEmpty", desc := "()Z", sig := { parameters := [], returnType := some .boolean }, accessFlags := 1, code := some k7c3 }
def k7c4 : Code := { maxStack := 2, maxLocals := 2, code := jdk_42_method_56_code, exceptionTable := #[], attributes := #[] }
def k7m4 : Method := { name := "charAt", desc := "(I)C", sig := { parameters := [.int], returnType := some .char }, accessFlags := 1, code := some k7c4 }
def k7c5 : Code := { maxStack := 4, maxLocals := 6, code := jdk_42_method_149_code, exceptionTable := #[], attributes := #[] }
def k7m5 : Method := { name := "<init>", desc := "([CIILjava/lang/Void;)V", sig := { parameters := [(.array .char), .int, .int, (.object "java/lang/Void")], returnType := none }, accessFlags := 2, code := some k7c5 }
def k7c6 : Code := { maxStack := 1, maxLocals := 1, code := jdk_42_method_152_code, exceptionTable := #[], attributes := #[] }
def k7m6 : Method := { name := "coder", desc := "()B", sig := { parameters := [], returnType := some .byte }, accessFlags := 0, code := some k7c6 }
def k7c7 : Code := { maxStack := 1, maxLocals := 1, code := jdk_42_method_154_code, exceptionTable := #[], attributes := #[] }
def k7m7 : Method := { name := "isLatin1", desc := "()Z", sig := { parameters := [], returnType := some .boolean }, accessFlags := 0, code := some k7c7 }
def k7c8 : Code := { maxStack := 3, maxLocals := 2, code := jdk_42_method_155_code, exceptionTable := #[], attributes := #[] }
def k7m8 : Method := { name := "checkIndex", desc := "(II)V", sig := { parameters := [.int, .int], returnType := none }, accessFlags := 8, code := some k7c8 }
/-- java/lang/String -/
def k7 : Class := { plain "java/lang/String" (some 0) with
  accessFlags := 49
  interfaces := #[2, 3, 4, 5, 6]
  cf := some (fileOf pool7 10 #[.nestMembers #[1103]] #[{ accessFlags := 1, nameIndex := 5, descriptorIndex := 6, attributes := #[] }, { accessFlags := 1, nameIndex := 5, descriptorIndex := 1010, attributes := #[] }, { accessFlags := 1, nameIndex := 507, descriptorIndex := 334, attributes := #[] }, { accessFlags := 1, nameIndex := 692, descriptorIndex := 142, attributes := #[] }, { accessFlags := 1, nameIndex := 497, descriptorIndex := 427, attributes := #[] }, { accessFlags := 2, nameIndex := 5, descriptorIndex := 29, attributes := #[] }, { accessFlags := 0, nameIndex := 17, descriptorIndex := 337, attributes := #[] }, { accessFlags := 0, nameIndex := 494, descriptorIndex := 142, attributes := #[] }, { accessFlags := 8, nameIndex := 501, descriptorIndex := 391, attributes := #[] }] 49 2 #[1106, 1108, 575, 1110, 1112] #[{ accessFlags := 18, nameIndex := 13, descriptorIndex := 14, attributes := #[] }, { accessFlags := 18, nameIndex := 17, descriptorIndex := 18, attributes := #[] }, { accessFlags := 2, nameIndex := 21, descriptorIndex := 22, attributes := #[] }, { accessFlags := 2, nameIndex := 25, descriptorIndex := 26, attributes := #[] }, { accessFlags := 26, nameIndex := 1116, descriptorIndex := 1117, attributes := #[] }, { accessFlags := 24, nameIndex := 40, descriptorIndex := 26, attributes := #[] }, { accessFlags := 26, nameIndex := 1101, descriptorIndex := 1102, attributes := #[] }, { accessFlags := 26, nameIndex := 1121, descriptorIndex := 1122, attributes := #[] }, { accessFlags := 25, nameIndex := 599, descriptorIndex := 600, attributes := #[] }, { accessFlags := 24, nameIndex := 1125, descriptorIndex := 18, attributes := #[] }, { accessFlags := 24, nameIndex := 1127, descriptorIndex := 18, attributes := #[] }])
  fields := #[{ name := "value", type := (.array .byte), accessFlags := 18, slot := 0, constantValue := 0 }, { name := "coder", type := .byte, accessFlags := 18, slot := 1, constantValue := 0 }, { name := "hash", type := .int, accessFlags := 2, slot := 2, constantValue := 0 }, { name := "hashIsZero", type := .boolean, accessFlags := 2, slot := 3, constantValue := 0 }, { name := "serialVersionUID", type := .long, accessFlags := 26, slot := 0, constantValue := 0 }, { name := "COMPACT_STRINGS", type := .boolean, accessFlags := 24, slot := 1, constantValue := 0 }, { name := "serialPersistentFields", type := (.array (.object "java/io/ObjectStreamField")), accessFlags := 26, slot := 2, constantValue := 0 }, { name := "REPL", type := .char, accessFlags := 26, slot := 3, constantValue := 0 }, { name := "CASE_INSENSITIVE_ORDER", type := (.object "java/util/Comparator"), accessFlags := 25, slot := 4, constantValue := 0 }, { name := "LATIN1", type := .byte, accessFlags := 24, slot := 5, constantValue := 0 }, { name := "UTF16", type := .byte, accessFlags := 24, slot := 6, constantValue := 0 }]
  methods := #[k7m0, k7m1, k7m2, k7m3, k7m4, k7m5, k7m6, k7m7, k7m8]
  instanceTypes := #[(.array .byte), .byte, .int, .boolean]
  staticTypes := #[.long, .boolean, (.array (.object "java/io/ObjectStreamField")), .char, (.object "java/util/Comparator"), .byte, .byte]
  resolved := Array.replicate 1451 none
  statics := some 0 }

def pool8 : Array CpInfo := pool [(6, .class_ 8), (1, u "java/lang/Object"), (0, u "<init>"), (0, u "()V"), (1, .class_ 14), (1, u "java/lang/StringUTF16"), (31, u "$assertionsDisabled"), (0, u "Z"), (13, u "HI_BYTE_SHIFT"), (0, u "I"), (2, u "LO_BYTE_SHIFT"), (49, .methodref 12 116), (0, .nameAndType 117 118), (0, u "compress"), (0, u "([CI[BII)I"), (3, u "([CII)[B"), (138, u "coderFromArrayLen"), (0, u "([BI)B"), (106, .class_ 371), (1, u "java/lang/StringUTF16$LinesSpliterator"), (58, u "MAX_LENGTH"), (196, .class_ 628), (0, u "java/lang/StringUTF16$CodePointsSpliterator"), (0, .class_ 630), (0, u "java/lang/StringUTF16$CharsSpliterator")] 4

def k8m0 : Method := { name := "<init>", desc := "()V", sig := { parameters := [], returnType := none }, accessFlags := 0, code := none }
def k8c1 : Code := { maxStack := 2, maxLocals := 2, code := jdk_52_method_15_code, exceptionTable := #[], attributes := #[] }
def k8m1 : Method := { name := "coderFromArrayLen", desc := "([BI)B", sig := { parameters := [(.array .byte), .int], returnType := some .byte }, accessFlags := 8, code := some k8c1 }
def k8c2 : Code := { maxStack := 5, maxLocals := 6, code := jdk_52_method_16_code, exceptionTable := #[], attributes := #[] }
def k8m2 : Method := { name := "compress", desc := "([CII)[B", sig := { parameters := [(.array .char), .int, .int], returnType := some (.array .byte) }, accessFlags := 9, code := some k8c2 }
def k8c3 : Code := { maxStack := 3, maxLocals := 7, code := jdk_52_method_21_code, exceptionTable := #[], attributes := #[] }
def k8m3 : Method := { name := "compress", desc := "([CI[BII)I", sig := { parameters := [(.array .char), .int, (.array .byte), .int, .int], returnType := some .int }, accessFlags := 9, code := some k8c3 }
/-- java/lang/StringUTF16 -/
def k8 : Class := { plain "java/lang/StringUTF16" (some 0) with
  accessFlags := 48
  interfaces := #[]
  cf := some (fileOf pool8 12 #[.nestMembers #[627, 629, 369]] #[{ accessFlags := 0, nameIndex := 9, descriptorIndex := 10, attributes := #[] }, { accessFlags := 8, nameIndex := 261, descriptorIndex := 262, attributes := #[] }, { accessFlags := 9, nameIndex := 117, descriptorIndex := 122, attributes := #[] }, { accessFlags := 9, nameIndex := 117, descriptorIndex := 118, attributes := #[] }] 48 6 #[] #[{ accessFlags := 26, nameIndex := 61, descriptorIndex := 62, attributes := #[] }, { accessFlags := 26, nameIndex := 65, descriptorIndex := 62, attributes := #[] }, { accessFlags := 24, nameIndex := 430, descriptorIndex := 62, attributes := #[] }, { accessFlags := 4120, nameIndex := 46, descriptorIndex := 47, attributes := #[] }])
  fields := #[{ name := "HI_BYTE_SHIFT", type := .int, accessFlags := 26, slot := 0, constantValue := 0 }, { name := "LO_BYTE_SHIFT", type := .int, accessFlags := 26, slot := 1, constantValue := 0 }, { name := "MAX_LENGTH", type := .int, accessFlags := 24, slot := 2, constantValue := 0 }, { name := "$assertionsDisabled", type := .boolean, accessFlags := 4120, slot := 3, constantValue := 0 }]
  methods := #[k8m0, k8m1, k8m2, k8m3]
  instanceTypes := #[]
  staticTypes := #[.int, .int, .int, .boolean]
  resolved := Array.replicate 635 none
  statics := none }

def pool9 : Array CpInfo := pool [(1, .methodref 2 3), (0, .class_ 4), (0, .nameAndType 5 6), (0, u "java/lang/Object"), (0, u "<init>"), (0, u "()V"), (0, .methodref 8 9), (0, .class_ 10), (0, .nameAndType 11 12), (0, u "java/lang/String"), (0, u "isEmpty"), (0, u "()Z"), (0, .methodref 8 14), (0, .nameAndType 15 16), (0, u "length"), (0, u "()I"), (0, .class_ 18), (0, u "com/example/packet_radio_link/packetradiolink/frame/Address"), (4, .methodref 8 24), (0, .nameAndType 25 26), (0, u "charAt"), (0, u "(I)C"), (0, .methodref 17 28), (0, .nameAndType 29 30), (0, u "isCallSignCharacter"), (0, u "(I)Z"), (12, .methodref 17 44), (0, .nameAndType 45 46), (0, u "withCharacter"), (0, u "(JII)J"), (0, .fieldref 17 48), (0, .nameAndType 49 50), (0, u "characters"), (0, u "J"), (0, .fieldref 17 52), (0, .nameAndType 53 54), (0, u "ssid"), (0, u "I"), (19, u "(Ljava/lang/String;I)V"), (52, u "MAX_CALL_SIGN_LENGTH"), (2, u "MAX_SSID"), (8, u "equals"), (0, u "(Ljava/lang/Object;)Z")] 40

def k9c0 : Code := { maxStack := 4, maxLocals := 7, code := prog_1_method_1_code, exceptionTable := #[], attributes := #[] }
def k9m0 : Method := { name := "<init>", desc := "(Ljava/lang/String;I)V", sig := { parameters := [(.object "java/lang/String"), .int], returnType := none }, accessFlags := 1, code := some k9c0 }
def k9c1 : Code := { maxStack := 2, maxLocals := 1, code := prog_1_method_4_code, exceptionTable := #[], attributes := #[] }
def k9m1 : Method := { name := "isCallSignCharacter", desc := "(I)Z", sig := { parameters := [.int], returnType := some .boolean }, accessFlags := 8, code := some k9c1 }
def k9c2 : Code := { maxStack := 6, maxLocals := 4, code := prog_1_method_5_code, exceptionTable := #[], attributes := #[] }
def k9m2 : Method := { name := "withCharacter", desc := "(JII)J", sig := { parameters := [.long, .int, .int], returnType := some .long }, accessFlags := 8, code := some k9c2 }
def k9c3 : Code := { maxStack := 4, maxLocals := 2, code := prog_1_method_9_code, exceptionTable := #[], attributes := #[] }
def k9m3 : Method := { name := "equals", desc := "(Ljava/lang/Object;)Z", sig := { parameters := [(.object "java/lang/Object")], returnType := some .boolean }, accessFlags := 1, code := some k9c3 }
/-- com/example/packet_radio_link/packetradiolink/frame/Address -/
def k9 : Class := { plain "com/example/packet_radio_link/packetradiolink/frame/Address" (some 0) with
  accessFlags := 49
  interfaces := #[]
  cf := some (fileOf pool9 17 #[] #[{ accessFlags := 1, nameIndex := 5, descriptorIndex := 74, attributes := #[] }, { accessFlags := 8, nameIndex := 29, descriptorIndex := 30, attributes := #[] }, { accessFlags := 8, nameIndex := 45, descriptorIndex := 46, attributes := #[] }, { accessFlags := 1, nameIndex := 139, descriptorIndex := 140, attributes := #[] }] 49 2 #[] #[{ accessFlags := 25, nameIndex := 127, descriptorIndex := 54, attributes := #[] }, { accessFlags := 25, nameIndex := 130, descriptorIndex := 54, attributes := #[] }, { accessFlags := 18, nameIndex := 49, descriptorIndex := 50, attributes := #[] }, { accessFlags := 18, nameIndex := 53, descriptorIndex := 54, attributes := #[] }])
  fields := #[{ name := "MAX_CALL_SIGN_LENGTH", type := .int, accessFlags := 25, slot := 0, constantValue := 0 }, { name := "MAX_SSID", type := .int, accessFlags := 25, slot := 1, constantValue := 0 }, { name := "characters", type := .long, accessFlags := 18, slot := 0, constantValue := 0 }, { name := "ssid", type := .int, accessFlags := 18, slot := 1, constantValue := 0 }]
  methods := #[k9m0, k9m1, k9m2, k9m3]
  instanceTypes := #[.long, .int]
  staticTypes := #[.int, .int]
  resolved := Array.replicate 181 none
  statics := none }

def pool10 : Array CpInfo := pool [(1, .class_ 2), (0, u "java/lang/String"), (1, .class_ 6), (1, u "java/lang/Object"), (0, u "<init>"), (0, u "()V"), (0, .methodref 1 10), (0, .nameAndType 11 12), (0, u "checkIndex"), (0, u "(II)V"), (1, .class_ 16), (1, u "java/lang/StringLatin1"), (36, u "([BI)C"), (67, u "$assertionsDisabled"), (0, u "Z"), (98, .class_ 223), (1, u "java/lang/StringLatin1$LinesSpliterator"), (28, u "charAt"), (137, .class_ 391), (0, u "java/lang/StringLatin1$CharsSpliterator")] 3

def k10m0 : Method := { name := "<init>", desc := "()V", sig := { parameters := [], returnType := none }, accessFlags := 0, code := none }
def k10c1 : Code := { maxStack := 2, maxLocals := 2, code := jdk_43_method_2_code, exceptionTable := #[], attributes := #[] }
def k10m1 : Method := { name := "charAt", desc := "([BI)C", sig := { parameters := [(.array .byte), .int], returnType := some .char }, accessFlags := 9, code := some k10c1 }
/-- java/lang/StringLatin1 -/
def k10 : Class := { plain "java/lang/StringLatin1" (some 0) with
  accessFlags := 48
  interfaces := #[]
  cf := some (fileOf pool10 14 #[.nestMembers #[390, 221]] #[{ accessFlags := 0, nameIndex := 7, descriptorIndex := 8, attributes := #[] }, { accessFlags := 9, nameIndex := 252, descriptorIndex := 53, attributes := #[] }] 48 4 #[] #[{ accessFlags := 4120, nameIndex := 121, descriptorIndex := 122, attributes := #[] }])
  fields := #[{ name := "$assertionsDisabled", type := .boolean, accessFlags := 4120, slot := 0, constantValue := 0 }]
  methods := #[k10m0, k10m1]
  instanceTypes := #[]
  staticTypes := #[.boolean]
  resolved := Array.replicate 395 none
  statics := none }

def pool11 : Array CpInfo := pool [(2, .class_ 4), (1, u "java/lang/Object"), (0, u "<init>"), (0, u "()V"), (17, .class_ 26), (1, u "jdk/internal/util/Preconditions"), (6, u "checkIndex"), (21, .class_ 56), (0, u "jdk/internal/util/Preconditions$4"), (57, .class_ 115), (0, u "jdk/internal/util/Preconditions$1"), (7, u "SIOOBE_FORMATTER"), (0, u "Ljava/util/function/BiFunction;"), (0, .class_ 126), (0, u "jdk/internal/util/Preconditions$2"), (3, u "AIOOBE_FORMATTER"), (0, .class_ 132), (0, u "jdk/internal/util/Preconditions$3"), (3, u "IOOBE_FORMATTER"), (41, u "(IILjava/util/function/BiFunction;)I")] 15

def k11m0 : Method := { name := "<init>", desc := "()V", sig := { parameters := [], returnType := none }, accessFlags := 1, code := none }
def k11c1 : Code := { maxStack := 3, maxLocals := 3, code := jdk_41_method_11_code, exceptionTable := #[], attributes := #[] }
def k11m1 : Method := { name := "checkIndex", desc := "(IILjava/util/function/BiFunction;)I", sig := { parameters := [.int, .int, (.object "java/util/function/BiFunction")], returnType := some .int }, accessFlags := 9, code := some k11c1 }
/-- jdk/internal/util/Preconditions -/
def k11 : Class := { plain "jdk/internal/util/Preconditions" (some 0) with
  accessFlags := 33
  interfaces := #[]
  cf := some (fileOf pool11 24 #[.nestMembers #[55, 131, 125, 114]] #[{ accessFlags := 1, nameIndex := 5, descriptorIndex := 6, attributes := #[] }, { accessFlags := 9, nameIndex := 33, descriptorIndex := 178, attributes := #[] }] 33 2 #[] #[{ accessFlags := 25, nameIndex := 123, descriptorIndex := 124, attributes := #[] }, { accessFlags := 25, nameIndex := 130, descriptorIndex := 124, attributes := #[] }, { accessFlags := 25, nameIndex := 136, descriptorIndex := 124, attributes := #[] }])
  fields := #[{ name := "SIOOBE_FORMATTER", type := (.object "java/util/function/BiFunction"), accessFlags := 25, slot := 0, constantValue := 0 }, { name := "AIOOBE_FORMATTER", type := (.object "java/util/function/BiFunction"), accessFlags := 25, slot := 1, constantValue := 0 }, { name := "IOOBE_FORMATTER", type := (.object "java/util/function/BiFunction"), accessFlags := 25, slot := 2, constantValue := 0 }]
  methods := #[k11m0, k11m1]
  instanceTypes := #[]
  staticTypes := #[(.object "java/util/function/BiFunction"), (.object "java/util/function/BiFunction"), (.object "java/util/function/BiFunction")]
  resolved := Array.replicate 194 none
  statics := some 1 }

def pool12 : Array CpInfo := pool [(9, u "<init>"), (6, .class_ 18), (1, u "java/lang/Object"), (0, u "()V"), (1, .class_ 23), (1, u "jdk/internal/util/ArraysSupport"), (0, u "LOG2_ARRAY_LONG_INDEX_SCALE"), (0, u "I"), (2, u "U"), (0, u "Ljdk/internal/misc/Unsafe;"), (8, u "BIG_ENDIAN"), (0, u "Z"), (8, u "LOG2_BYTE_BIT_SIZE"), (4, u "LOG2_ARRAY_INT_INDEX_SCALE"), (54, u "JLA"), (0, u "Ljdk/internal/access/JavaLangAccess;"), (11, u "LOG2_ARRAY_BOOLEAN_INDEX_SCALE"), (9, u "LOG2_ARRAY_BYTE_INDEX_SCALE"), (5, u "LOG2_ARRAY_CHAR_INDEX_SCALE"), (5, u "LOG2_ARRAY_SHORT_INDEX_SCALE"), (18, u "LOG2_ARRAY_FLOAT_INDEX_SCALE"), (24, u "LOG2_ARRAY_DOUBLE_INDEX_SCALE"), (89, u "T_BOOLEAN"), (2, u "T_CHAR"), (1, u "T_FLOAT"), (1, u "T_DOUBLE"), (1, u "T_BYTE"), (1, u "T_SHORT"), (1, u "T_INT"), (1, u "T_LONG"), (1, u "SOFT_MAX_ARRAY_LENGTH")] 83

def k12m0 : Method := { name := "<init>", desc := "()V", sig := { parameters := [], returnType := none }, accessFlags := 2, code := none }
/-- jdk/internal/util/ArraysSupport -/
def k12 : Class := { plain "jdk/internal/util/ArraysSupport" (some 0) with
  accessFlags := 33
  interfaces := #[]
  cf := some (fileOf pool12 21 #[] #[{ accessFlags := 2, nameIndex := 9, descriptorIndex := 19, attributes := #[] }] 33 16 #[] #[{ accessFlags := 24, nameIndex := 28, descriptorIndex := 29, attributes := #[] }, { accessFlags := 26, nameIndex := 38, descriptorIndex := 39, attributes := #[] }, { accessFlags := 25, nameIndex := 121, descriptorIndex := 25, attributes := #[] }, { accessFlags := 25, nameIndex := 131, descriptorIndex := 25, attributes := #[] }, { accessFlags := 25, nameIndex := 137, descriptorIndex := 25, attributes := #[] }, { accessFlags := 25, nameIndex := 143, descriptorIndex := 25, attributes := #[] }, { accessFlags := 25, nameIndex := 53, descriptorIndex := 25, attributes := #[] }, { accessFlags := 25, nameIndex := 24, descriptorIndex := 25, attributes := #[] }, { accessFlags := 25, nameIndex := 162, descriptorIndex := 25, attributes := #[] }, { accessFlags := 25, nameIndex := 187, descriptorIndex := 25, attributes := #[] }, { accessFlags := 26, nameIndex := 48, descriptorIndex := 25, attributes := #[] }, { accessFlags := 25, nameIndex := 277, descriptorIndex := 25, attributes := #[] }, { accessFlags := 25, nameIndex := 280, descriptorIndex := 25, attributes := #[] }, { accessFlags := 25, nameIndex := 282, descriptorIndex := 25, attributes := #[] }, { accessFlags := 25, nameIndex := 284, descriptorIndex := 25, attributes := #[] }, { accessFlags := 25, nameIndex := 286, descriptorIndex := 25, attributes := #[] }, { accessFlags := 25, nameIndex := 288, descriptorIndex := 25, attributes := #[] }, { accessFlags := 25, nameIndex := 290, descriptorIndex := 25, attributes := #[] }, { accessFlags := 25, nameIndex := 292, descriptorIndex := 25, attributes := #[] }, { accessFlags := 26, nameIndex := 108, descriptorIndex := 109, attributes := #[] }, { accessFlags := 25, nameIndex := 294, descriptorIndex := 25, attributes := #[] }])
  fields := #[{ name := "U", type := (.object "jdk/internal/misc/Unsafe"), accessFlags := 24, slot := 0, constantValue := 0 }, { name := "BIG_ENDIAN", type := .boolean, accessFlags := 26, slot := 1, constantValue := 0 }, { name := "LOG2_ARRAY_BOOLEAN_INDEX_SCALE", type := .int, accessFlags := 25, slot := 2, constantValue := 0 }, { name := "LOG2_ARRAY_BYTE_INDEX_SCALE", type := .int, accessFlags := 25, slot := 3, constantValue := 0 }, { name := "LOG2_ARRAY_CHAR_INDEX_SCALE", type := .int, accessFlags := 25, slot := 4, constantValue := 0 }, { name := "LOG2_ARRAY_SHORT_INDEX_SCALE", type := .int, accessFlags := 25, slot := 5, constantValue := 0 }, { name := "LOG2_ARRAY_INT_INDEX_SCALE", type := .int, accessFlags := 25, slot := 6, constantValue := 0 }, { name := "LOG2_ARRAY_LONG_INDEX_SCALE", type := .int, accessFlags := 25, slot := 7, constantValue := 0 }, { name := "LOG2_ARRAY_FLOAT_INDEX_SCALE", type := .int, accessFlags := 25, slot := 8, constantValue := 0 }, { name := "LOG2_ARRAY_DOUBLE_INDEX_SCALE", type := .int, accessFlags := 25, slot := 9, constantValue := 0 }, { name := "LOG2_BYTE_BIT_SIZE", type := .int, accessFlags := 26, slot := 10, constantValue := 0 }, { name := "T_BOOLEAN", type := .int, accessFlags := 25, slot := 11, constantValue := 0 }, { name := "T_CHAR", type := .int, accessFlags := 25, slot := 12, constantValue := 0 }, { name := "T_FLOAT", type := .int, accessFlags := 25, slot := 13, constantValue := 0 }, { name := "T_DOUBLE", type := .int, accessFlags := 25, slot := 14, constantValue := 0 }, { name := "T_BYTE", type := .int, accessFlags := 25, slot := 15, constantValue := 0 }, { name := "T_SHORT", type := .int, accessFlags := 25, slot := 16, constantValue := 0 }, { name := "T_INT", type := .int, accessFlags := 25, slot := 17, constantValue := 0 }, { name := "T_LONG", type := .int, accessFlags := 25, slot := 18, constantValue := 0 }, { name := "JLA", type := (.object "jdk/internal/access/JavaLangAccess"), accessFlags := 26, slot := 19, constantValue := 0 }, { name := "SOFT_MAX_ARRAY_LENGTH", type := .int, accessFlags := 25, slot := 20, constantValue := 0 }]
  methods := #[k12m0]
  instanceTypes := #[]
  staticTypes := #[(.object "jdk/internal/misc/Unsafe"), .boolean, .int, .int, .int, .int, .int, .int, .int, .int, .int, .int, .int, .int, .int, .int, .int, .int, .int, (.object "jdk/internal/access/JavaLangAccess"), .int]
  resolved := Array.replicate 378 none
  statics := none }

def pool13 : Array CpInfo := pool [(1, u "java/lang/Cloneable"), (0, .class_ 1), (0, u "java/lang/Object"), (0, .class_ 3)] 3

/-- java/lang/Cloneable -/
def k13 : Class := { plain "java/lang/Cloneable" (some 0) with
  accessFlags := 1537
  interfaces := #[]
  cf := some (fileOf pool13 2 #[] #[] 1537 4 #[] #[])
  fields := #[]
  methods := #[]
  instanceTypes := #[]
  staticTypes := #[]
  resolved := Array.replicate 8 none
  statics := none }

/-- the primitive byte -/
def k14 : Class := { plain "byte" none with kind := .primitive 'B', accessFlags := 0x411 }
/-- [B -/
def k15 : Class := { plain "[B" (some 0) with kind := .array 14 .byte, interfaces := #[13, 2], accessFlags := 1041 }

/-- the primitive char -/
def k16 : Class := { plain "char" none with kind := .primitive 'C', accessFlags := 0x411 }
/-- [C -/
def k17 : Class := { plain "[C" (some 0) with kind := .array 16 .char, interfaces := #[13, 2], accessFlags := 1041 }

/-- the primitive int -/
def k18 : Class := { plain "int" none with kind := .primitive 'I', accessFlags := 0x411 }
/-- [I -/
def k19 : Class := { plain "[I" (some 0) with kind := .array 18 .int, interfaces := #[13, 2], accessFlags := 1041 }

def heap : Heap := #[{ cls := 7, slots := #[.long 0, .int 1, .null, .int 0, .null, .int 0, .int 0], vm := .statics 7 },
  { cls := 11, slots := #[.null, .null, .null], vm := .statics 11 }]
def classes : Array Class := #[k0, k1, k2, k3, k4, k5, k6, k7, k8, k9, k10, k11, k12, k13, k14, k15, k16, k17, k18, k19]
def interned : List (Array UInt16 × Addr) := []
def slotsUsed : Nat := 10
def theMethod : MethodId := ⟨1, 3⟩
def args0 : Array Value := #[.long 5, .long 7, .int 9, .int 4, .int 6]
def aboutOver (below : List Frame) : State where
  vm := { classes := classes, interned := interned.toArray }
  heap := heap
  slotsUsed := slotsUsed
  threads := #[{ frames := .invoking theMethod args0 :: below }]
def below0 : List Frame := [.native { method := ⟨0, 0⟩, args := #[] }]
def about1 : State := aboutOver below0
def p0 : Program := .bare "" "" ""
def e0 : Env := launch0.env 0 0 0
theorem w_frames : about1.frames = Frame.invoking theMethod args0 :: below0 := rfl
set_option maxRecDepth 65536 in
theorem w_args : argsFit about1.vm theMethod args0 = true := by decide +kernel
set_option maxRecDepth 65536 in
theorem w_heap : heapFits about1 = true := by decide +kernel
set_option maxRecDepth 65536 in
theorem w_runnable : about1.curStatus? = some .runnable := by decide +kernel
set_option maxRecDepth 65536 in
theorem w_alone : about1.alone = true := by decide +kernel
set_option maxRecDepth 65536 in
theorem w_named : about1.methodNamed? x = some theMethod := by decide +kernel
set_option maxRecDepth 65536 in
theorem w_hears : about1.hears theMethod below0 = true := by decide +kernel
set_option maxRecDepth 65536 in
theorem w_ripe : about1.ripe theMethod args0 below0 = true := by decide +kernel
theorem w_running : about1.status = .running := rfl
set_option maxRecDepth 65536 in
theorem w_room : about1.hasRoom e0.platform room_1 = true :=
  launch0.hasRoom_least _ room_1 (by decide +kernel) (by decide +kernel) (by decide +kernel) (by decide +kernel) (by decide +kernel) (by decide +kernel)
theorem allAtoms_all (ts : List Jvm.Cond) (a : Array Jvm.Value) (st : Jvm.State) : (allAtoms ts).before a st = ts.all (fun c => c.before a st) := by
  induction ts with
  | nil => rfl
  | cons c t ih =>
    show (Jvm.Cond.and c (allAtoms t)).before a st = _
    rw [Jvm.Cond.before_and, ih, List.all_cons]
def words1 : List Jvm.Cond := Jvm.Cond.code x code maxLocals ret :: tables_1
/-- a 'code' word, met by the world's own term for the bytes: nothing is compared byte by byte -/
theorem code_word {y : MethodName} {bytes : ByteArray} {mx : Nat} {rt : Option FieldType} {a : Array Value} {s : State} {m : MethodId} {meth : Method} {c : Code} (h1 : s.methodNamed? y = some m) (h2 : s.vm.method? m = some meth) (h3 : meth.code = some c) (h4 : c.code = bytes)
    (h5 : (c.maxLocals == mx && c.exceptionTable.isEmpty && decide (c.maxStack ≤ mostOperands) && decide (meth.sig.returnType = rt) && !meth.locks && decide (parseMethodDescriptor y.desc = some meth.sig)) = true) : (Jvm.Cond.code y bytes mx rt).before a s = true := by
  simp only [Bool.and_eq_true, beq_iff_eq, Bool.not_eq_true', decide_eq_true_eq] at h5
  obtain ⟨⟨⟨⟨⟨g1, g2⟩, g3⟩, g4⟩, g5⟩, g6⟩ := h5
  simp [Cond.before, Cond.holds, Cond.value, h1, h2, h3, h4, g1, g2, g3, g4, g5, g6]
def isCode : Jvm.Cond → Bool
  | .code _ _ _ _ => true
  | _ => false
theorem all_split {L : List Jvm.Cond} {P : Jvm.Cond → Bool} (h1 : L.all (fun c => isCode c || P c) = true) (h2 : ∀ c ∈ L.filter isCode, P c = true) : L.all P = true := by
  refine List.all_eq_true.mpr fun c hc => ?_
  have h := List.all_eq_true.mp h1 c hc
  rcases Bool.eq_false_or_eq_true (isCode c) with hi | hi
  · exact h2 c (List.mem_filter.mpr ⟨hc, hi⟩)
  · simpa [hi] using h
set_option maxRecDepth 65536 in
theorem w_c0 : (Jvm.Cond.code x code maxLocals ret).before args0 about1 = true := code_word (m := ⟨1, 3⟩) (meth := k1m3) (c := k1c3) (by decide +kernel) rfl rfl rfl (by decide +kernel)
set_option maxRecDepth 65536 in
theorem w_c1 : (Jvm.Cond.code ({ cls := "com/example/packet_radio_link/packetradiolink/frame/AddressEqualsPinLaw", name := "ch", desc := "(JI)C" } : Jvm.MethodName) method_2_code (4 : Nat) (Option.some Jvm.ClassFile.FieldType.char)).before args0 about1 = true := code_word (m := ⟨1, 1⟩) (meth := k1m1) (c := k1c1) (by decide +kernel) rfl rfl rfl (by decide +kernel)
set_option maxRecDepth 65536 in
theorem w_c2 : (Jvm.Cond.code ({ cls := "com/example/packet_radio_link/packetradiolink/frame/AddressEqualsPinLaw", name := "str", desc := "(CCCCCCI)Ljava/lang/String;" } : Jvm.MethodName) method_3_code (7 : Nat) (Option.some (Jvm.ClassFile.FieldType.object "java/lang/String"))).before args0 about1 = true := code_word (m := ⟨1, 2⟩) (meth := k1m2) (c := k1c2) (by decide +kernel) rfl rfl rfl (by decide +kernel)
set_option maxRecDepth 65536 in
theorem w_c3 : (Jvm.Cond.code ({ cls := "java/lang/String", name := "<init>", desc := "([C)V" } : Jvm.MethodName) jdk_42_method_3_code (2 : Nat) (Option.none : Option Jvm.ClassFile.FieldType)).before args0 about1 = true := code_word (m := ⟨7, 1⟩) (meth := k7m1) (c := k7c1) (by decide +kernel) rfl rfl rfl (by decide +kernel)
set_option maxRecDepth 65536 in
theorem w_c4 : (Jvm.Cond.code ({ cls := "java/lang/String", name := "<init>", desc := "([CIILjava/lang/Void;)V" } : Jvm.MethodName) jdk_42_method_149_code (6 : Nat) (Option.none : Option Jvm.ClassFile.FieldType)).before args0 about1 = true := code_word (m := ⟨7, 5⟩) (meth := k7m5) (c := k7c5) (by decide +kernel) rfl rfl rfl (by decide +kernel)
set_option maxRecDepth 65536 in
theorem w_c5 : (Jvm.Cond.code ({ cls := "java/lang/Object", name := "<init>", desc := "()V" } : Jvm.MethodName) object_method_1_code (1 : Nat) (Option.none : Option Jvm.ClassFile.FieldType)).before args0 about1 = true := code_word (m := ⟨0, 0⟩) (meth := k0m0) (c := k0c0) (by decide +kernel) rfl rfl rfl (by decide +kernel)
set_option maxRecDepth 65536 in
theorem w_c6 : (Jvm.Cond.code ({ cls := "java/lang/StringUTF16", name := "compress", desc := "([CII)[B" } : Jvm.MethodName) jdk_52_method_16_code (6 : Nat) (Option.some (Jvm.ClassFile.FieldType.array Jvm.ClassFile.FieldType.byte))).before args0 about1 = true := code_word (m := ⟨8, 2⟩) (meth := k8m2) (c := k8c2) (by decide +kernel) rfl rfl rfl (by decide +kernel)
set_option maxRecDepth 65536 in
theorem w_c7 : (Jvm.Cond.code ({ cls := "java/lang/StringUTF16", name := "compress", desc := "([CI[BII)I" } : Jvm.MethodName) jdk_52_method_21_code (7 : Nat) (Option.some Jvm.ClassFile.FieldType.int)).before args0 about1 = true := code_word (m := ⟨8, 3⟩) (meth := k8m3) (c := k8c3) (by decide +kernel) rfl rfl rfl (by decide +kernel)
set_option maxRecDepth 65536 in
theorem w_c8 : (Jvm.Cond.code ({ cls := "java/lang/StringUTF16", name := "coderFromArrayLen", desc := "([BI)B" } : Jvm.MethodName) jdk_52_method_15_code (2 : Nat) (Option.some Jvm.ClassFile.FieldType.byte)).before args0 about1 = true := code_word (m := ⟨8, 1⟩) (meth := k8m1) (c := k8c1) (by decide +kernel) rfl rfl rfl (by decide +kernel)
set_option maxRecDepth 65536 in
theorem w_c9 : (Jvm.Cond.code ({ cls := "com/example/packet_radio_link/packetradiolink/frame/Address", name := "<init>", desc := "(Ljava/lang/String;I)V" } : Jvm.MethodName) prog_1_method_1_code (7 : Nat) (Option.none : Option Jvm.ClassFile.FieldType)).before args0 about1 = true := code_word (m := ⟨9, 0⟩) (meth := k9m0) (c := k9c0) (by decide +kernel) rfl rfl rfl (by decide +kernel)
set_option maxRecDepth 65536 in
theorem w_c10 : (Jvm.Cond.code ({ cls := "java/lang/String", name := "isEmpty", desc := "()Z" } : Jvm.MethodName) jdk_42_method_55_code (1 : Nat) (Option.some Jvm.ClassFile.FieldType.boolean)).before args0 about1 = true := code_word (m := ⟨7, 3⟩) (meth := k7m3) (c := k7c3) (by decide +kernel) rfl rfl rfl (by decide +kernel)
set_option maxRecDepth 65536 in
theorem w_c11 : (Jvm.Cond.code ({ cls := "java/lang/String", name := "length", desc := "()I" } : Jvm.MethodName) jdk_42_method_54_code (1 : Nat) (Option.some Jvm.ClassFile.FieldType.int)).before args0 about1 = true := code_word (m := ⟨7, 2⟩) (meth := k7m2) (c := k7c2) (by decide +kernel) rfl rfl rfl (by decide +kernel)
set_option maxRecDepth 65536 in
theorem w_c12 : (Jvm.Cond.code ({ cls := "java/lang/String", name := "coder", desc := "()B" } : Jvm.MethodName) jdk_42_method_152_code (1 : Nat) (Option.some Jvm.ClassFile.FieldType.byte)).before args0 about1 = true := code_word (m := ⟨7, 6⟩) (meth := k7m6) (c := k7c6) (by decide +kernel) rfl rfl rfl (by decide +kernel)
set_option maxRecDepth 65536 in
theorem w_c13 : (Jvm.Cond.code ({ cls := "java/lang/String", name := "charAt", desc := "(I)C" } : Jvm.MethodName) jdk_42_method_56_code (2 : Nat) (Option.some Jvm.ClassFile.FieldType.char)).before args0 about1 = true := code_word (m := ⟨7, 4⟩) (meth := k7m4) (c := k7c4) (by decide +kernel) rfl rfl rfl (by decide +kernel)
set_option maxRecDepth 65536 in
theorem w_c14 : (Jvm.Cond.code ({ cls := "java/lang/String", name := "isLatin1", desc := "()Z" } : Jvm.MethodName) jdk_42_method_154_code (1 : Nat) (Option.some Jvm.ClassFile.FieldType.boolean)).before args0 about1 = true := code_word (m := ⟨7, 7⟩) (meth := k7m7) (c := k7c7) (by decide +kernel) rfl rfl rfl (by decide +kernel)
set_option maxRecDepth 65536 in
theorem w_c15 : (Jvm.Cond.code ({ cls := "java/lang/StringLatin1", name := "charAt", desc := "([BI)C" } : Jvm.MethodName) jdk_43_method_2_code (2 : Nat) (Option.some Jvm.ClassFile.FieldType.char)).before args0 about1 = true := code_word (m := ⟨10, 1⟩) (meth := k10m1) (c := k10c1) (by decide +kernel) rfl rfl rfl (by decide +kernel)
set_option maxRecDepth 65536 in
theorem w_c16 : (Jvm.Cond.code ({ cls := "java/lang/String", name := "checkIndex", desc := "(II)V" } : Jvm.MethodName) jdk_42_method_155_code (2 : Nat) (Option.none : Option Jvm.ClassFile.FieldType)).before args0 about1 = true := code_word (m := ⟨7, 8⟩) (meth := k7m8) (c := k7c8) (by decide +kernel) rfl rfl rfl (by decide +kernel)
set_option maxRecDepth 65536 in
theorem w_c17 : (Jvm.Cond.code ({ cls := "jdk/internal/util/Preconditions", name := "checkIndex", desc := "(IILjava/util/function/BiFunction;)I" } : Jvm.MethodName) jdk_41_method_11_code (3 : Nat) (Option.some Jvm.ClassFile.FieldType.int)).before args0 about1 = true := code_word (m := ⟨11, 1⟩) (meth := k11m1) (c := k11c1) (by decide +kernel) rfl rfl rfl (by decide +kernel)
set_option maxRecDepth 65536 in
theorem w_c18 : (Jvm.Cond.code ({ cls := "com/example/packet_radio_link/packetradiolink/frame/Address", name := "isCallSignCharacter", desc := "(I)Z" } : Jvm.MethodName) prog_1_method_4_code (1 : Nat) (Option.some Jvm.ClassFile.FieldType.boolean)).before args0 about1 = true := code_word (m := ⟨9, 1⟩) (meth := k9m1) (c := k9c1) (by decide +kernel) rfl rfl rfl (by decide +kernel)
set_option maxRecDepth 65536 in
theorem w_c19 : (Jvm.Cond.code ({ cls := "com/example/packet_radio_link/packetradiolink/frame/Address", name := "withCharacter", desc := "(JII)J" } : Jvm.MethodName) prog_1_method_5_code (4 : Nat) (Option.some Jvm.ClassFile.FieldType.long)).before args0 about1 = true := code_word (m := ⟨9, 2⟩) (meth := k9m2) (c := k9c2) (by decide +kernel) rfl rfl rfl (by decide +kernel)
set_option maxRecDepth 65536 in
theorem w_c20 : (Jvm.Cond.code ({ cls := "com/example/packet_radio_link/packetradiolink/frame/Address", name := "equals", desc := "(Ljava/lang/Object;)Z" } : Jvm.MethodName) prog_1_method_9_code (2 : Nat) (Option.some Jvm.ClassFile.FieldType.boolean)).before args0 about1 = true := code_word (m := ⟨9, 3⟩) (meth := k9m3) (c := k9c3) (by decide +kernel) rfl rfl rfl (by decide +kernel)
def codes1 : List Jvm.Cond := [Jvm.Cond.code x code maxLocals ret, Jvm.Cond.code ({ cls := "com/example/packet_radio_link/packetradiolink/frame/AddressEqualsPinLaw", name := "ch", desc := "(JI)C" } : Jvm.MethodName) method_2_code (4 : Nat) (Option.some Jvm.ClassFile.FieldType.char), Jvm.Cond.code ({ cls := "com/example/packet_radio_link/packetradiolink/frame/AddressEqualsPinLaw", name := "str", desc := "(CCCCCCI)Ljava/lang/String;" } : Jvm.MethodName) method_3_code (7 : Nat) (Option.some (Jvm.ClassFile.FieldType.object "java/lang/String")), Jvm.Cond.code ({ cls := "java/lang/String", name := "<init>", desc := "([C)V" } : Jvm.MethodName) jdk_42_method_3_code (2 : Nat) (Option.none : Option Jvm.ClassFile.FieldType), Jvm.Cond.code ({ cls := "java/lang/String", name := "<init>", desc := "([CIILjava/lang/Void;)V" } : Jvm.MethodName) jdk_42_method_149_code (6 : Nat) (Option.none : Option Jvm.ClassFile.FieldType), Jvm.Cond.code ({ cls := "java/lang/Object", name := "<init>", desc := "()V" } : Jvm.MethodName) object_method_1_code (1 : Nat) (Option.none : Option Jvm.ClassFile.FieldType), Jvm.Cond.code ({ cls := "java/lang/StringUTF16", name := "compress", desc := "([CII)[B" } : Jvm.MethodName) jdk_52_method_16_code (6 : Nat) (Option.some (Jvm.ClassFile.FieldType.array Jvm.ClassFile.FieldType.byte)), Jvm.Cond.code ({ cls := "java/lang/StringUTF16", name := "compress", desc := "([CI[BII)I" } : Jvm.MethodName) jdk_52_method_21_code (7 : Nat) (Option.some Jvm.ClassFile.FieldType.int), Jvm.Cond.code ({ cls := "java/lang/StringUTF16", name := "coderFromArrayLen", desc := "([BI)B" } : Jvm.MethodName) jdk_52_method_15_code (2 : Nat) (Option.some Jvm.ClassFile.FieldType.byte), Jvm.Cond.code ({ cls := "com/example/packet_radio_link/packetradiolink/frame/Address", name := "<init>", desc := "(Ljava/lang/String;I)V" } : Jvm.MethodName) prog_1_method_1_code (7 : Nat) (Option.none : Option Jvm.ClassFile.FieldType), Jvm.Cond.code ({ cls := "java/lang/String", name := "isEmpty", desc := "()Z" } : Jvm.MethodName) jdk_42_method_55_code (1 : Nat) (Option.some Jvm.ClassFile.FieldType.boolean), Jvm.Cond.code ({ cls := "java/lang/String", name := "length", desc := "()I" } : Jvm.MethodName) jdk_42_method_54_code (1 : Nat) (Option.some Jvm.ClassFile.FieldType.int), Jvm.Cond.code ({ cls := "java/lang/String", name := "coder", desc := "()B" } : Jvm.MethodName) jdk_42_method_152_code (1 : Nat) (Option.some Jvm.ClassFile.FieldType.byte), Jvm.Cond.code ({ cls := "java/lang/String", name := "charAt", desc := "(I)C" } : Jvm.MethodName) jdk_42_method_56_code (2 : Nat) (Option.some Jvm.ClassFile.FieldType.char), Jvm.Cond.code ({ cls := "java/lang/String", name := "isLatin1", desc := "()Z" } : Jvm.MethodName) jdk_42_method_154_code (1 : Nat) (Option.some Jvm.ClassFile.FieldType.boolean), Jvm.Cond.code ({ cls := "java/lang/StringLatin1", name := "charAt", desc := "([BI)C" } : Jvm.MethodName) jdk_43_method_2_code (2 : Nat) (Option.some Jvm.ClassFile.FieldType.char), Jvm.Cond.code ({ cls := "java/lang/String", name := "checkIndex", desc := "(II)V" } : Jvm.MethodName) jdk_42_method_155_code (2 : Nat) (Option.none : Option Jvm.ClassFile.FieldType), Jvm.Cond.code ({ cls := "jdk/internal/util/Preconditions", name := "checkIndex", desc := "(IILjava/util/function/BiFunction;)I" } : Jvm.MethodName) jdk_41_method_11_code (3 : Nat) (Option.some Jvm.ClassFile.FieldType.int), Jvm.Cond.code ({ cls := "com/example/packet_radio_link/packetradiolink/frame/Address", name := "isCallSignCharacter", desc := "(I)Z" } : Jvm.MethodName) prog_1_method_4_code (1 : Nat) (Option.some Jvm.ClassFile.FieldType.boolean), Jvm.Cond.code ({ cls := "com/example/packet_radio_link/packetradiolink/frame/Address", name := "withCharacter", desc := "(JII)J" } : Jvm.MethodName) prog_1_method_5_code (4 : Nat) (Option.some Jvm.ClassFile.FieldType.long), Jvm.Cond.code ({ cls := "com/example/packet_radio_link/packetradiolink/frame/Address", name := "equals", desc := "(Ljava/lang/Object;)Z" } : Jvm.MethodName) prog_1_method_9_code (2 : Nat) (Option.some Jvm.ClassFile.FieldType.boolean)]
set_option maxRecDepth 65536 in
theorem codes_eq : words1.filter isCode = codes1 := rfl
theorem w_codes : ∀ c ∈ words1.filter isCode, c.before args0 about1 = true := by
  rw [codes_eq]
  intro c hc
  simp only [codes1, List.mem_cons, List.not_mem_nil, or_false] at hc
  rcases hc with rfl | rfl | rfl | rfl | rfl | rfl | rfl | rfl | rfl | rfl | rfl | rfl | rfl | rfl | rfl | rfl | rfl | rfl | rfl | rfl | rfl
  · exact w_c0
  · exact w_c1
  · exact w_c2
  · exact w_c3
  · exact w_c4
  · exact w_c5
  · exact w_c6
  · exact w_c7
  · exact w_c8
  · exact w_c9
  · exact w_c10
  · exact w_c11
  · exact w_c12
  · exact w_c13
  · exact w_c14
  · exact w_c15
  · exact w_c16
  · exact w_c17
  · exact w_c18
  · exact w_c19
  · exact w_c20
set_option maxRecDepth 65536 in
theorem w_t1 : (words1.take 24).all (fun c => isCode c || c.before args0 about1) = true := by decide +kernel
set_option maxRecDepth 65536 in
theorem w_t2 : ((words1.drop 24).take 24).all (fun c => isCode c || c.before args0 about1) = true := by decide +kernel
set_option maxRecDepth 65536 in
theorem w_t3 : (((words1.drop 24).drop 24).take 24).all (fun c => isCode c || c.before args0 about1) = true := by decide +kernel
set_option maxRecDepth 65536 in
theorem w_t4 : ((((words1.drop 24).drop 24).drop 24).take 24).all (fun c => isCode c || c.before args0 about1) = true := by decide +kernel
set_option maxRecDepth 65536 in
theorem w_t5 : ((((words1.drop 24).drop 24).drop 24).drop 24).all (fun c => isCode c || c.before args0 about1) = true := by decide +kernel
theorem w_tables : (allAtoms (Jvm.Cond.code x code maxLocals ret :: tables_1)).before args0 about1 = true := by
  rw [allAtoms_all]
  show words1.all (fun c => c.before args0 about1) = true
  refine all_split ?_ w_codes
  rw [← List.take_append_drop 24 words1, List.all_append, w_t1, ← List.take_append_drop 24 (words1.drop 24), List.all_append, w_t2, ← List.take_append_drop 24 ((words1.drop 24).drop 24), List.all_append, w_t3, ← List.take_append_drop 24 (((words1.drop 24).drop 24).drop 24), List.all_append, w_t4, w_t5]
  rfl
set_option maxRecDepth 65536 in
theorem w_rest : rest_1_c.before args0 about1 = true := by decide +kernel
set_option maxRecDepth 65536 in
theorem w_case : (Jvm.Cond.and given_1 narrow_1).before args0 about1 = true := by decide +kernel
theorem w_applies : (headSpec (Jvm.Cond.code x code maxLocals ret :: tables_1) room_1).applies x e0.platform about1 = true :=
  (Spec.applies_iff w_frames).mpr ⟨w_running, w_runnable, w_alone, w_named, w_hears, w_ripe, w_room, w_tables⟩
theorem atStart : AtStart classFile x code maxLocals ret World_1 tables_1 room_1 Calls_1 rest_1 Pre_1 launch0 p0 e0 about1 theMethod args0 below0 :=
  ⟨lists_1, trivial, launch0.admits_env _ _ _, launch0.least_env, fairChoices_fair.cas, fairChoices_fair.clock, w_frames, w_args, w_heap, w_applies, trivial, w_rest, w_case⟩
end start1
theorem witness_1 : WitnessClaimed_1 := ⟨start1.p0, start1.e0, start1.about1, start1.theMethod, start1.args0, start1.below0, start1.atStart⟩
end Jvm.Pilot.@@N@@
