import JvmDerived
import JvmDerived.Pilot.@@N@@Statement
import JvmDerived.Pilot.@@N@@Code
set_option linter.unusedVariables false
set_option linter.unusedSimpArgs false
namespace Jvm.RoadKit
open Sem ClassFile Op Lib Jvm.Stand Jvm.Free Jvm.LawKit
theorem own_lrem_eq (x y : Int64) : x - x / y * y = x % y := by
  have h1 := Int64.le_toInt (x % y)
  have h2 := Int64.toInt_lt (x % y)
  have h3 : x.toInt - x.toInt.tdiv y.toInt * y.toInt = (x % y).toInt := by
    rw [Int64.toInt_mod, Int.mul_comm, ← Int.tmod_def]
  apply Int64.toInt_inj.mp
  rw [Int64.toInt_sub, Int64.toInt_mul, Int64.toInt_div, Int.bmod_mul_bmod, Int.sub_bmod_bmod, h3]
  exact Int.bmod_eq_of_le_mul_two (by omega) (by omega)
theorem own_lremM {p : Program} {l : Launch} {e : Env} {R : Room} {s : State} {m : MethodId} {args : Array Value} {below : List Frame} {meth : Method} {c : Code} {T : State} {locs : List Loc} {cells slots : Nat} {g : JFrame} {target : State} (X : Stand p l e R s m args below meth c T locs cells slots) (hx : p.tables.exec = Jvm.exec) (hg : g.method = m) {x y : Int64} {rest : List Value} (hd : decode c.code g.pc = .ok (.lrem, 1)) (hs : g.stack = .long y :: .long x :: rest) (hy : y ≠ 0)
    (hr : Steps p.tables e below (T.setTop { g with pc := g.pc + 1, stack := .long (x % y) :: rest }) target) : Steps p.tables e below (T.setTop g) target :=
  XS.lrem X.here hx hg hd hs hy (by rw [own_lrem_eq x y]; exact hr)
end Jvm.RoadKit
namespace Jvm.Pilot.@@N@@
open Jvm Jvm.ClassFile Sem Op Lib Jvm.Free Jvm.Stand Jvm.LawKit Jvm.RoadKit Bundle Jvm.Pilot.@@N@@.Jvm.D
theorem own_sta_keep {Z : State} {h h' : Heap} {C n d : String} {v : Value} (F : Sta Z h C n d v) (K : Keep h h' []) : Sta Z h' C n d v := by
  obtain ⟨cf, i, k, f, st, cell, h1, h2, h3, h4, h5, r⟩ := F
  exact ⟨cf, i, k, f, st, cell, h1, h2, h3, h4, K.2.1 _ _ h5 nin0, r⟩
theorem own_selp {s : State} {args : Array Value} {y : MethodName} {n : Nat} (wi : (Cond.instantiable y.cls n).before args s = true) (hp : s.PrivateAt y) (hi : (Cond.instanceMethod y).before args s = true) (hy : y.cls ≠ "java/lang/invoke/MethodHandle" ∧ y.cls ≠ "java/lang/invoke/VarHandle" := by decide) : (Cond.selects y.cls y y).before args s = true := by
  obtain ⟨c, k, g1, g2, g3, g4, -⟩ := Cond.instantiable_spec wi
  exact Jvm.Stand.selects_self_of_private g1 g2 (by simp only [Bool.or_eq_false_iff] at g4; exact g4.1) hp hi hy
def own_mn (a b : Int64) : Int64 := if b < a then b else a
def own_mx (a b : Int64) : Int64 := if b < a then a else b
theorem d1_0 : decode method_2_code 0 = .ok (.aload_n 0, 1) := by decide +kernel
theorem d1_1 : decode method_2_code 1 = .ok (.iload_n 1, 1) := by decide +kernel
theorem d1_2 : decode method_2_code 2 = .ok (.laload, 1) := by decide +kernel
theorem d1_3 : decode method_2_code 3 = .ok (.aload_n 0, 1) := by decide +kernel
theorem d1_4 : decode method_2_code 4 = .ok (.iload_n 2, 1) := by decide +kernel
theorem d1_5 : decode method_2_code 5 = .ok (.laload, 1) := by decide +kernel
theorem d1_6 : decode method_2_code 6 = .ok (.lcmp, 1) := by decide +kernel
theorem d1_7 : decode method_2_code 7 = .ok (.ifCond .le 17, 3) := by decide +kernel
theorem d1_10 : decode method_2_code 10 = .ok (.aload_n 0, 1) := by decide +kernel
theorem d1_11 : decode method_2_code 11 = .ok (.iload_n 1, 1) := by decide +kernel
theorem d1_12 : decode method_2_code 12 = .ok (.laload, 1) := by decide +kernel
theorem d1_13 : decode method_2_code 13 = .ok (.lstore_n 3, 1) := by decide +kernel
theorem d1_14 : decode method_2_code 14 = .ok (.aload_n 0, 1) := by decide +kernel
theorem d1_15 : decode method_2_code 15 = .ok (.iload_n 1, 1) := by decide +kernel
theorem d1_16 : decode method_2_code 16 = .ok (.aload_n 0, 1) := by decide +kernel
theorem d1_17 : decode method_2_code 17 = .ok (.iload_n 2, 1) := by decide +kernel
theorem d1_18 : decode method_2_code 18 = .ok (.laload, 1) := by decide +kernel
theorem d1_19 : decode method_2_code 19 = .ok (.lastore, 1) := by decide +kernel
theorem d1_20 : decode method_2_code 20 = .ok (.aload_n 0, 1) := by decide +kernel
theorem d1_21 : decode method_2_code 21 = .ok (.iload_n 2, 1) := by decide +kernel
theorem d1_22 : decode method_2_code 22 = .ok (.lload_n 3, 1) := by decide +kernel
theorem d1_23 : decode method_2_code 23 = .ok (.lastore, 1) := by decide +kernel
theorem d1_24 : decode method_2_code 24 = .ok (.return_, 1) := by decide +kernel
theorem pn_23 : plainName "com/example/causeline/causeline/core/FilingPastPinLaw" = true := by first | (simp [plainName, overriddenIn]; done) | decide +kernel
theorem ef_rmCs01 (m : MethodId) (x0 : Addr) (x1 : Int32) (x2 : Int32) : entryFrame m #[(.ref x0), (.int x1), (.int x2)] 5 = mkF m 0 #[.val (.ref x0), .val (.int x1), .val (.int x2), .unset, .unset] [] := by first | (simp [entryFrame, mkF, argsToLocals, Value.category]; done) | rfl
def QCs01 (Z : State) (va : Addr) (kb : ClassId) (x0 x1 x2 x3 : Int64) (h0 : Heap) (n0 : Nat) (v : Option Value) (h : Heap) (L : List Loc) : Prop := v = none ∧ Fr n0 L ∧ Keep h0 h [va] ∧ Arv Z h va kb .long (4 : Int32) [(.long (own_mn x0 x1)), (.long (own_mx x0 x1)), (.long x2), (.long x3)] (.long (0 : Int64))
set_option maxRecDepth 65536 in
set_option maxHeartbeats 40000000 in
theorem rmCs01 (l : Launch) (Z : State) (a0 : Array Value) (hw : ∀ d ∈ tables_1, d.before a0 Z = true) (ws : List Jvm.Cond) (va : Addr) (kb : ClassId) (x0 x1 x2 x3 : Int64) (h0 : Heap) (n0 : Nat) (Z0 : n0 ≤ h0.size) (Va : Arv Z h0 va kb .long (4 : Int32) [(.long x0), (.long x1), (.long x2), (.long x3)] (.long (0 : Int64))) (g_va : n0 ≤ va) :
    MetFree l (⟨"com/example/causeline/causeline/core/FilingPastPinLaw", "cs", "([JII)V"⟩ : MethodName) (head1 (Jvm.Cond.code (⟨"com/example/causeline/causeline/core/FilingPastPinLaw", "cs", "([JII)V"⟩ : MethodName) method_2_code 5 none :: ws) ({ frames := 0, cells := 0, slots := 0, locals := 0 } : Room)) (fun a U => a = #[(.ref va), (.int (0 : Int32)), (.int (1 : Int32))] ∧ Z.Warmed39 U.vm ∧ U.heap = h0) (fun _ _ _ _ _ => True) (fun _ U o U' => ∃ v L, o = .returned v ∧ QCs01 Z va kb x0 x1 x2 x3 h0 n0 v U'.heap L ∧ FrameEnd U o U' L ({ frames := 0, cells := 0, slots := 0, locals := 0 } : Room).cells ({ frames := 0, cells := 0, slots := 0, locals := 0 } : Room).slots) := by
  refine MetFree.of_bodySF (plainFor_of_name pn_23) hisR ?_
  intro p e s m args below meth c s₁ Bd hml0 hP hK
  obtain ⟨rfl, hZ, hh⟩ := hP
  have hx := Bd.exec
  have hby := Bd.bytes
  have hml : c.maxLocals = 5 := hml0
  have hown : s.vm.findClass "com/example/causeline/causeline/core/FilingPastPinLaw" = some m.cls := findClass_of_methodNamed Bd.named
  have hnm := (name_of_methodNamed Bd.named Bd.method).1
  have X0 : Stand p l e ({ frames := 0, cells := 0, slots := 0, locals := 0 } : Room) s m #[(.ref va), (.int (0 : Int32)), (.int (1 : Int32))] below meth c s₁ [] 0 0 := Stand.of_body Bd
  have e0 : s₁.heap = h0 := by rw [← hh, Bd.state]; rfl
  have N0 := Fr.nil n0
  have pre0 : ∀ t, Steps p.tables e below (s₁.setTop (mkF m 0 #[.val (.ref va), .val (.int (0 : Int32)), .val (.int (1 : Int32)), .unset, .unset] [])) t → Steps p.tables e below (s₁.setTop (entryFrame m #[(.ref va), (.int (0 : Int32)), (.int (1 : Int32))] 5)) t := fun t k => castTop (ef_rmCs01 m va (0 : Int32) (1 : Int32)) k
  obtain ⟨cl1, Ar1, q1, S1, NN1, HH1, GG1⟩ := id Va
  have hin1 : ¬ ((0 : Int32) < 0 ∨ cl1.slots.size ≤ ((0 : Int32)).toNatClampNeg) := inb_of S1 ⟨by decide, by decide⟩
  have hat1 : cl1.slots[((0 : Int32)).toNatClampNeg]? = some (.long x0) := HH1.at hin1 rfl
  obtain ⟨cl2, Ar2, q2, S2, NN2, HH2, GG2⟩ := id Va
  have hin2 : ¬ ((1 : Int32) < 0 ∨ cl2.slots.size ≤ ((1 : Int32)).toNatClampNeg) := inb_of S2 ⟨by decide, by decide⟩
  have hat2 : cl2.slots[((1 : Int32)).toNatClampNeg]? = some (.long x1) := HH2.at hin2 rfl
  have pre3 : ∀ t, Steps p.tables e below (s₁.setTop (mkF m 7 #[.val (.ref va), .val (.int (0 : Int32)), .val (.int (1 : Int32)), .unset, .unset] [(.int (lcmpW x0 x1))])) t → Steps p.tables e below (s₁.setTop (entryFrame m #[(.ref va), (.int (0 : Int32)), (.int (1 : Int32))] 5)) t := by
    intro t kt
    refine pre0 t ?_
    show Steps p.tables e below (s₁.setTop (mkF m 0 #[.val (.ref va), .val (.int (0 : Int32)), .val (.int (1 : Int32)), .unset, .unset] [])) _
    refine XS.aloadN X0.here hx rfl (hb hby d1_0) rfl rfl ?_
    show Steps p.tables e below (s₁.setTop (mkF m 1 #[.val (.ref va), .val (.int (0 : Int32)), .val (.int (1 : Int32)), .unset, .unset] [(.ref va)])) _
    refine XS.iloadN X0.here hx rfl (hb hby d1_1) rfl ?_
    show Steps p.tables e below (s₁.setTop (mkF m 2 #[.val (.ref va), .val (.int (0 : Int32)), .val (.int (1 : Int32)), .unset, .unset] [(.int (0 : Int32)), (.ref va)])) _
    refine X0.laload hx (j := (0 : Int32)) (v := (.long x0)) (by rw [e0]; exact Ar1.1) (State.isArrayOf_alike hZ.alike Ar1.2.1) Ar1.2.2 hin1 hat1 (g := (mkF m 2 #[.val (.ref va), .val (.int (0 : Int32)), .val (.int (1 : Int32)), .unset, .unset] [(.int (0 : Int32)), (.ref va)])) rfl rfl (hb hby d1_2) _ ?_
    show Steps p.tables e below (s₁.setTop (mkF m 3 #[.val (.ref va), .val (.int (0 : Int32)), .val (.int (1 : Int32)), .unset, .unset] [(.long x0)])) _
    refine XS.aloadN X0.here hx rfl (hb hby d1_3) rfl rfl ?_
    show Steps p.tables e below (s₁.setTop (mkF m 4 #[.val (.ref va), .val (.int (0 : Int32)), .val (.int (1 : Int32)), .unset, .unset] [(.ref va), (.long x0)])) _
    refine XS.iloadN X0.here hx rfl (hb hby d1_4) rfl ?_
    show Steps p.tables e below (s₁.setTop (mkF m 5 #[.val (.ref va), .val (.int (0 : Int32)), .val (.int (1 : Int32)), .unset, .unset] [(.int (1 : Int32)), (.ref va), (.long x0)])) _
    refine X0.laload hx (j := (1 : Int32)) (v := (.long x1)) (by rw [e0]; exact Ar2.1) (State.isArrayOf_alike hZ.alike Ar2.2.1) Ar2.2.2 hin2 hat2 (g := (mkF m 5 #[.val (.ref va), .val (.int (0 : Int32)), .val (.int (1 : Int32)), .unset, .unset] [(.int (1 : Int32)), (.ref va), (.long x0)])) rfl rfl (hb hby d1_5) _ ?_
    show Steps p.tables e below (s₁.setTop (mkF m 6 #[.val (.ref va), .val (.int (0 : Int32)), .val (.int (1 : Int32)), .unset, .unset] [(.long x1), (.long x0)])) _
    refine XS.lcmp X0.here hx rfl (hb hby d1_6) rfl ?_
    exact kt
  by_cases hc4 : x1 < x0
  ·
    obtain ⟨cl5, Ar5, q5, S5, NN5, HH5, GG5⟩ := id Va
    have hin5 : ¬ ((0 : Int32) < 0 ∨ cl5.slots.size ≤ ((0 : Int32)).toNatClampNeg) := inb_of S5 ⟨by decide, by decide⟩
    have hat5 : cl5.slots[((0 : Int32)).toNatClampNeg]? = some (.long x0) := HH5.at hin5 rfl
    obtain ⟨cl6, Ar6, q6, S6, NN6, HH6, GG6⟩ := id Va
    have hin6 : ¬ ((1 : Int32) < 0 ∨ cl6.slots.size ≤ ((1 : Int32)).toNatClampNeg) := inb_of S6 ⟨by decide, by decide⟩
    have hat6 : cl6.slots[((1 : Int32)).toNatClampNeg]? = some (.long x1) := HH6.at hin6 rfl
    obtain ⟨cl7, Ar7, q7, S7, NN7, HH7, GG7⟩ := id Va
    have hin7 : ¬ ((0 : Int32) < 0 ∨ cl7.slots.size ≤ ((0 : Int32)).toNatClampNeg) := inb_of S7 ⟨by decide, by decide⟩
    obtain ⟨T8, h8, X8, e8, W8, st8⟩ := stJ X0 hx hZ e0 Ar7 (j := (0 : Int32)) hin7  (g := (mkF m 19 #[.val (.ref va), .val (.int (0 : Int32)), .val (.int (1 : Int32)), .val (.long x0), .second] [(.long x1), (.int (0 : Int32)), (.ref va)])) rfl rfl (hb hby d1_19)
    have V8 : Arv Z h8 va kb .long (4 : Int32) [(.long x1), (.long x1), (.long x2), (.long x3)] (.long (0 : Int64)) := (Arv.set Ar7 q7 S7 NN7 HH7 GG7 rfl W8 0 rfl (Nat.le_of_ble_eq_true rfl))
    have Z8 : n0 ≤ h8.size := Nat.le_trans Z0 (Keep.of_wr W8).1
    have N8 := Fr.snoc X8 N0 g_va
    have K8 : Keep h0 h8 [va] := (Keep.refl h0 [va]).wr W8 (Or.inl (List.mem_of_getElem? (i := 0) rfl))
    obtain ⟨cl9, Ar9, q9, S9, NN9, HH9, GG9⟩ := id V8
    have hin9 : ¬ ((1 : Int32) < 0 ∨ cl9.slots.size ≤ ((1 : Int32)).toNatClampNeg) := inb_of S9 ⟨by decide, by decide⟩
    obtain ⟨T10, h10, X10, e10, W10, st10⟩ := stJ X8 hx hZ e8 Ar9 (j := (1 : Int32)) hin9  (g := (mkF m 23 #[.val (.ref va), .val (.int (0 : Int32)), .val (.int (1 : Int32)), .val (.long x0), .second] [(.long x0), (.int (1 : Int32)), (.ref va)])) rfl rfl (hb hby d1_23)
    have V10 : Arv Z h10 va kb .long (4 : Int32) [(.long x1), (.long x0), (.long x2), (.long x3)] (.long (0 : Int64)) := (Arv.set Ar9 q9 S9 NN9 HH9 GG9 rfl W10 1 rfl (Nat.le_of_ble_eq_true rfl))
    have Z10 : n0 ≤ h10.size := Nat.le_trans Z8 (Keep.of_wr W10).1
    have N10 := Fr.snoc X10 N8 g_va
    have K10 : Keep h0 h10 [va] := K8.wr W10 (Or.inl (List.mem_of_getElem? (i := 0) rfl))
    obtain ⟨fs, hr, hrun, hended, hW, hsame⟩ := X10.leave (v := none) (fun _ => rfl) (hlocks := BodyLoose.notSynchronized Bd)
    refine ⟨_, _, pre3 _ ?_, hrun, hended, _, _, rfl, ?_, ⟨_, rfl⟩, hW, hsame.mono (by decide) (by decide)⟩
    ·
      show Steps p.tables e below (s₁.setTop (mkF m 7 #[.val (.ref va), .val (.int (0 : Int32)), .val (.int (1 : Int32)), .unset, .unset] [(.int (lcmpW x0 x1))])) _
      refine XS.ifNo X0.here hx rfl (hb hby d1_7) rfl ((if0 _ _).trans (tlt (((lw_gt _ _).mpr hc4) : (0 : Int32) < (lcmpW x0 x1))).2.2.2) ?_
      show Steps p.tables e below (s₁.setTop (mkF m 10 #[.val (.ref va), .val (.int (0 : Int32)), .val (.int (1 : Int32)), .unset, .unset] [])) _
      refine XS.aloadN X0.here hx rfl (hb hby d1_10) rfl rfl ?_
      show Steps p.tables e below (s₁.setTop (mkF m 11 #[.val (.ref va), .val (.int (0 : Int32)), .val (.int (1 : Int32)), .unset, .unset] [(.ref va)])) _
      refine XS.iloadN X0.here hx rfl (hb hby d1_11) rfl ?_
      show Steps p.tables e below (s₁.setTop (mkF m 12 #[.val (.ref va), .val (.int (0 : Int32)), .val (.int (1 : Int32)), .unset, .unset] [(.int (0 : Int32)), (.ref va)])) _
      refine X0.laload hx (j := (0 : Int32)) (v := (.long x0)) (by rw [e0]; exact Ar5.1) (State.isArrayOf_alike hZ.alike Ar5.2.1) Ar5.2.2 hin5 hat5 (g := (mkF m 12 #[.val (.ref va), .val (.int (0 : Int32)), .val (.int (1 : Int32)), .unset, .unset] [(.int (0 : Int32)), (.ref va)])) rfl rfl (hb hby d1_12) _ ?_
      show Steps p.tables e below (s₁.setTop (mkF m 13 #[.val (.ref va), .val (.int (0 : Int32)), .val (.int (1 : Int32)), .unset, .unset] [(.long x0)])) _
      refine XS.lstoreN X0.here hx rfl (hb hby d1_13) rfl (l' := #[.val (.ref va), .val (.int (0 : Int32)), .val (.int (1 : Int32)), .val (.long x0), .second]) rfl ?_
      show Steps p.tables e below (s₁.setTop (mkF m 14 #[.val (.ref va), .val (.int (0 : Int32)), .val (.int (1 : Int32)), .val (.long x0), .second] [])) _
      refine XS.aloadN X0.here hx rfl (hb hby d1_14) rfl rfl ?_
      show Steps p.tables e below (s₁.setTop (mkF m 15 #[.val (.ref va), .val (.int (0 : Int32)), .val (.int (1 : Int32)), .val (.long x0), .second] [(.ref va)])) _
      refine XS.iloadN X0.here hx rfl (hb hby d1_15) rfl ?_
      show Steps p.tables e below (s₁.setTop (mkF m 16 #[.val (.ref va), .val (.int (0 : Int32)), .val (.int (1 : Int32)), .val (.long x0), .second] [(.int (0 : Int32)), (.ref va)])) _
      refine XS.aloadN X0.here hx rfl (hb hby d1_16) rfl rfl ?_
      show Steps p.tables e below (s₁.setTop (mkF m 17 #[.val (.ref va), .val (.int (0 : Int32)), .val (.int (1 : Int32)), .val (.long x0), .second] [(.ref va), (.int (0 : Int32)), (.ref va)])) _
      refine XS.iloadN X0.here hx rfl (hb hby d1_17) rfl ?_
      show Steps p.tables e below (s₁.setTop (mkF m 18 #[.val (.ref va), .val (.int (0 : Int32)), .val (.int (1 : Int32)), .val (.long x0), .second] [(.int (1 : Int32)), (.ref va), (.int (0 : Int32)), (.ref va)])) _
      refine X0.laload hx (j := (1 : Int32)) (v := (.long x1)) (by rw [e0]; exact Ar6.1) (State.isArrayOf_alike hZ.alike Ar6.2.1) Ar6.2.2 hin6 hat6 (g := (mkF m 18 #[.val (.ref va), .val (.int (0 : Int32)), .val (.int (1 : Int32)), .val (.long x0), .second] [(.int (1 : Int32)), (.ref va), (.int (0 : Int32)), (.ref va)])) rfl rfl (hb hby d1_18) _ ?_
      show Steps p.tables e below (s₁.setTop (mkF m 19 #[.val (.ref va), .val (.int (0 : Int32)), .val (.int (1 : Int32)), .val (.long x0), .second] [(.long x1), (.int (0 : Int32)), (.ref va)])) _
      refine st8 _ ?_
      show Steps p.tables e below (T8.setTop (mkF m 20 #[.val (.ref va), .val (.int (0 : Int32)), .val (.int (1 : Int32)), .val (.long x0), .second] [])) _
      refine XS.aloadN X8.here hx rfl (hb hby d1_20) rfl rfl ?_
      show Steps p.tables e below (T8.setTop (mkF m 21 #[.val (.ref va), .val (.int (0 : Int32)), .val (.int (1 : Int32)), .val (.long x0), .second] [(.ref va)])) _
      refine XS.iloadN X8.here hx rfl (hb hby d1_21) rfl ?_
      show Steps p.tables e below (T8.setTop (mkF m 22 #[.val (.ref va), .val (.int (0 : Int32)), .val (.int (1 : Int32)), .val (.long x0), .second] [(.int (1 : Int32)), (.ref va)])) _
      refine XS.lloadN X8.here hx rfl (hb hby d1_22) rfl ?_
      show Steps p.tables e below (T8.setTop (mkF m 23 #[.val (.ref va), .val (.int (0 : Int32)), .val (.int (1 : Int32)), .val (.long x0), .second] [(.long x0), (.int (1 : Int32)), (.ref va)])) _
      refine st10 _ ?_
      show Steps p.tables e below (T10.setTop (mkF m 24 #[.val (.ref va), .val (.int (0 : Int32)), .val (.int (1 : Int32)), .val (.long x0), .second] [])) _
      exact X10.returnOut hx Bd.returns (hb hby d1_24) hr
    ·
      show QCs01 Z va kb x0 x1 x2 x3 h0 n0 _ T10.heap _
      rw [e10]
      exact ⟨rfl, N10, K10, (by rw [own_mn, own_mx, if_pos hc4, if_pos hc4]; exact V10)⟩
  ·
    obtain ⟨fs, hr, hrun, hended, hW, hsame⟩ := X0.leave (v := none) (fun _ => rfl) (hlocks := BodyLoose.notSynchronized Bd)
    refine ⟨_, _, pre3 _ ?_, hrun, hended, _, _, rfl, ?_, ⟨_, rfl⟩, hW, hsame.mono (by decide) (by decide)⟩
    ·
      show Steps p.tables e below (s₁.setTop (mkF m 7 #[.val (.ref va), .val (.int (0 : Int32)), .val (.int (1 : Int32)), .unset, .unset] [(.int (lcmpW x0 x1))])) _
      refine XS.ifYes X0.here hx rfl (pc0 := 7) (pc' := 24) rfl (hb hby d1_7) rfl ((if0 _ _).trans (flt ((fun q => hc4 ((lw_gt _ _).mp q)) : ¬ ((0 : Int32) < (lcmpW x0 x1)))).2.2.2) (by decide) (by decide) ?_
      show Steps p.tables e below (s₁.setTop (mkF m 24 #[.val (.ref va), .val (.int (0 : Int32)), .val (.int (1 : Int32)), .unset, .unset] [])) _
      exact X0.returnOut hx Bd.returns (hb hby d1_24) hr
    ·
      show QCs01 Z va kb x0 x1 x2 x3 h0 n0 _ s₁.heap _
      rw [e0]
      exact ⟨rfl, N0, (Keep.refl h0 [va]), (by rw [own_mn, own_mx, if_neg hc4, if_neg hc4]; exact Va)⟩
theorem ef_rmCs23 (m : MethodId) (x0 : Addr) (x1 : Int32) (x2 : Int32) : entryFrame m #[(.ref x0), (.int x1), (.int x2)] 5 = mkF m 0 #[.val (.ref x0), .val (.int x1), .val (.int x2), .unset, .unset] [] := by first | (simp [entryFrame, mkF, argsToLocals, Value.category]; done) | rfl
def QCs23 (Z : State) (va : Addr) (kb : ClassId) (x0 x1 x2 x3 : Int64) (h0 : Heap) (n0 : Nat) (v : Option Value) (h : Heap) (L : List Loc) : Prop := v = none ∧ Fr n0 L ∧ Keep h0 h [va] ∧ Arv Z h va kb .long (4 : Int32) [(.long x0), (.long x1), (.long (own_mn x2 x3)), (.long (own_mx x2 x3))] (.long (0 : Int64))
set_option maxRecDepth 65536 in
set_option maxHeartbeats 40000000 in
theorem rmCs23 (l : Launch) (Z : State) (a0 : Array Value) (hw : ∀ d ∈ tables_1, d.before a0 Z = true) (ws : List Jvm.Cond) (va : Addr) (kb : ClassId) (x0 x1 x2 x3 : Int64) (h0 : Heap) (n0 : Nat) (Z0 : n0 ≤ h0.size) (Va : Arv Z h0 va kb .long (4 : Int32) [(.long x0), (.long x1), (.long x2), (.long x3)] (.long (0 : Int64))) (g_va : n0 ≤ va) :
    MetFree l (⟨"com/example/causeline/causeline/core/FilingPastPinLaw", "cs", "([JII)V"⟩ : MethodName) (head1 (Jvm.Cond.code (⟨"com/example/causeline/causeline/core/FilingPastPinLaw", "cs", "([JII)V"⟩ : MethodName) method_2_code 5 none :: ws) ({ frames := 0, cells := 0, slots := 0, locals := 0 } : Room)) (fun a U => a = #[(.ref va), (.int (2 : Int32)), (.int (3 : Int32))] ∧ Z.Warmed39 U.vm ∧ U.heap = h0) (fun _ _ _ _ _ => True) (fun _ U o U' => ∃ v L, o = .returned v ∧ QCs23 Z va kb x0 x1 x2 x3 h0 n0 v U'.heap L ∧ FrameEnd U o U' L ({ frames := 0, cells := 0, slots := 0, locals := 0 } : Room).cells ({ frames := 0, cells := 0, slots := 0, locals := 0 } : Room).slots) := by
  refine MetFree.of_bodySF (plainFor_of_name pn_23) hisR ?_
  intro p e s m args below meth c s₁ Bd hml0 hP hK
  obtain ⟨rfl, hZ, hh⟩ := hP
  have hx := Bd.exec
  have hby := Bd.bytes
  have hml : c.maxLocals = 5 := hml0
  have hown : s.vm.findClass "com/example/causeline/causeline/core/FilingPastPinLaw" = some m.cls := findClass_of_methodNamed Bd.named
  have hnm := (name_of_methodNamed Bd.named Bd.method).1
  have X0 : Stand p l e ({ frames := 0, cells := 0, slots := 0, locals := 0 } : Room) s m #[(.ref va), (.int (2 : Int32)), (.int (3 : Int32))] below meth c s₁ [] 0 0 := Stand.of_body Bd
  have e0 : s₁.heap = h0 := by rw [← hh, Bd.state]; rfl
  have N0 := Fr.nil n0
  have pre0 : ∀ t, Steps p.tables e below (s₁.setTop (mkF m 0 #[.val (.ref va), .val (.int (2 : Int32)), .val (.int (3 : Int32)), .unset, .unset] [])) t → Steps p.tables e below (s₁.setTop (entryFrame m #[(.ref va), (.int (2 : Int32)), (.int (3 : Int32))] 5)) t := fun t k => castTop (ef_rmCs23 m va (2 : Int32) (3 : Int32)) k
  obtain ⟨cl1, Ar1, q1, S1, NN1, HH1, GG1⟩ := id Va
  have hin1 : ¬ ((2 : Int32) < 0 ∨ cl1.slots.size ≤ ((2 : Int32)).toNatClampNeg) := inb_of S1 ⟨by decide, by decide⟩
  have hat1 : cl1.slots[((2 : Int32)).toNatClampNeg]? = some (.long x2) := HH1.at hin1 rfl
  obtain ⟨cl2, Ar2, q2, S2, NN2, HH2, GG2⟩ := id Va
  have hin2 : ¬ ((3 : Int32) < 0 ∨ cl2.slots.size ≤ ((3 : Int32)).toNatClampNeg) := inb_of S2 ⟨by decide, by decide⟩
  have hat2 : cl2.slots[((3 : Int32)).toNatClampNeg]? = some (.long x3) := HH2.at hin2 rfl
  have pre3 : ∀ t, Steps p.tables e below (s₁.setTop (mkF m 7 #[.val (.ref va), .val (.int (2 : Int32)), .val (.int (3 : Int32)), .unset, .unset] [(.int (lcmpW x2 x3))])) t → Steps p.tables e below (s₁.setTop (entryFrame m #[(.ref va), (.int (2 : Int32)), (.int (3 : Int32))] 5)) t := by
    intro t kt
    refine pre0 t ?_
    show Steps p.tables e below (s₁.setTop (mkF m 0 #[.val (.ref va), .val (.int (2 : Int32)), .val (.int (3 : Int32)), .unset, .unset] [])) _
    refine XS.aloadN X0.here hx rfl (hb hby d1_0) rfl rfl ?_
    show Steps p.tables e below (s₁.setTop (mkF m 1 #[.val (.ref va), .val (.int (2 : Int32)), .val (.int (3 : Int32)), .unset, .unset] [(.ref va)])) _
    refine XS.iloadN X0.here hx rfl (hb hby d1_1) rfl ?_
    show Steps p.tables e below (s₁.setTop (mkF m 2 #[.val (.ref va), .val (.int (2 : Int32)), .val (.int (3 : Int32)), .unset, .unset] [(.int (2 : Int32)), (.ref va)])) _
    refine X0.laload hx (j := (2 : Int32)) (v := (.long x2)) (by rw [e0]; exact Ar1.1) (State.isArrayOf_alike hZ.alike Ar1.2.1) Ar1.2.2 hin1 hat1 (g := (mkF m 2 #[.val (.ref va), .val (.int (2 : Int32)), .val (.int (3 : Int32)), .unset, .unset] [(.int (2 : Int32)), (.ref va)])) rfl rfl (hb hby d1_2) _ ?_
    show Steps p.tables e below (s₁.setTop (mkF m 3 #[.val (.ref va), .val (.int (2 : Int32)), .val (.int (3 : Int32)), .unset, .unset] [(.long x2)])) _
    refine XS.aloadN X0.here hx rfl (hb hby d1_3) rfl rfl ?_
    show Steps p.tables e below (s₁.setTop (mkF m 4 #[.val (.ref va), .val (.int (2 : Int32)), .val (.int (3 : Int32)), .unset, .unset] [(.ref va), (.long x2)])) _
    refine XS.iloadN X0.here hx rfl (hb hby d1_4) rfl ?_
    show Steps p.tables e below (s₁.setTop (mkF m 5 #[.val (.ref va), .val (.int (2 : Int32)), .val (.int (3 : Int32)), .unset, .unset] [(.int (3 : Int32)), (.ref va), (.long x2)])) _
    refine X0.laload hx (j := (3 : Int32)) (v := (.long x3)) (by rw [e0]; exact Ar2.1) (State.isArrayOf_alike hZ.alike Ar2.2.1) Ar2.2.2 hin2 hat2 (g := (mkF m 5 #[.val (.ref va), .val (.int (2 : Int32)), .val (.int (3 : Int32)), .unset, .unset] [(.int (3 : Int32)), (.ref va), (.long x2)])) rfl rfl (hb hby d1_5) _ ?_
    show Steps p.tables e below (s₁.setTop (mkF m 6 #[.val (.ref va), .val (.int (2 : Int32)), .val (.int (3 : Int32)), .unset, .unset] [(.long x3), (.long x2)])) _
    refine XS.lcmp X0.here hx rfl (hb hby d1_6) rfl ?_
    exact kt
  by_cases hc4 : x3 < x2
  ·
    obtain ⟨cl5, Ar5, q5, S5, NN5, HH5, GG5⟩ := id Va
    have hin5 : ¬ ((2 : Int32) < 0 ∨ cl5.slots.size ≤ ((2 : Int32)).toNatClampNeg) := inb_of S5 ⟨by decide, by decide⟩
    have hat5 : cl5.slots[((2 : Int32)).toNatClampNeg]? = some (.long x2) := HH5.at hin5 rfl
    obtain ⟨cl6, Ar6, q6, S6, NN6, HH6, GG6⟩ := id Va
    have hin6 : ¬ ((3 : Int32) < 0 ∨ cl6.slots.size ≤ ((3 : Int32)).toNatClampNeg) := inb_of S6 ⟨by decide, by decide⟩
    have hat6 : cl6.slots[((3 : Int32)).toNatClampNeg]? = some (.long x3) := HH6.at hin6 rfl
    obtain ⟨cl7, Ar7, q7, S7, NN7, HH7, GG7⟩ := id Va
    have hin7 : ¬ ((2 : Int32) < 0 ∨ cl7.slots.size ≤ ((2 : Int32)).toNatClampNeg) := inb_of S7 ⟨by decide, by decide⟩
    obtain ⟨T8, h8, X8, e8, W8, st8⟩ := stJ X0 hx hZ e0 Ar7 (j := (2 : Int32)) hin7  (g := (mkF m 19 #[.val (.ref va), .val (.int (2 : Int32)), .val (.int (3 : Int32)), .val (.long x2), .second] [(.long x3), (.int (2 : Int32)), (.ref va)])) rfl rfl (hb hby d1_19)
    have V8 : Arv Z h8 va kb .long (4 : Int32) [(.long x0), (.long x1), (.long x3), (.long x3)] (.long (0 : Int64)) := (Arv.set Ar7 q7 S7 NN7 HH7 GG7 rfl W8 2 rfl (Nat.le_of_ble_eq_true rfl))
    have Z8 : n0 ≤ h8.size := Nat.le_trans Z0 (Keep.of_wr W8).1
    have N8 := Fr.snoc X8 N0 g_va
    have K8 : Keep h0 h8 [va] := (Keep.refl h0 [va]).wr W8 (Or.inl (List.mem_of_getElem? (i := 0) rfl))
    obtain ⟨cl9, Ar9, q9, S9, NN9, HH9, GG9⟩ := id V8
    have hin9 : ¬ ((3 : Int32) < 0 ∨ cl9.slots.size ≤ ((3 : Int32)).toNatClampNeg) := inb_of S9 ⟨by decide, by decide⟩
    obtain ⟨T10, h10, X10, e10, W10, st10⟩ := stJ X8 hx hZ e8 Ar9 (j := (3 : Int32)) hin9  (g := (mkF m 23 #[.val (.ref va), .val (.int (2 : Int32)), .val (.int (3 : Int32)), .val (.long x2), .second] [(.long x2), (.int (3 : Int32)), (.ref va)])) rfl rfl (hb hby d1_23)
    have V10 : Arv Z h10 va kb .long (4 : Int32) [(.long x0), (.long x1), (.long x3), (.long x2)] (.long (0 : Int64)) := (Arv.set Ar9 q9 S9 NN9 HH9 GG9 rfl W10 3 rfl (Nat.le_of_ble_eq_true rfl))
    have Z10 : n0 ≤ h10.size := Nat.le_trans Z8 (Keep.of_wr W10).1
    have N10 := Fr.snoc X10 N8 g_va
    have K10 : Keep h0 h10 [va] := K8.wr W10 (Or.inl (List.mem_of_getElem? (i := 0) rfl))
    obtain ⟨fs, hr, hrun, hended, hW, hsame⟩ := X10.leave (v := none) (fun _ => rfl) (hlocks := BodyLoose.notSynchronized Bd)
    refine ⟨_, _, pre3 _ ?_, hrun, hended, _, _, rfl, ?_, ⟨_, rfl⟩, hW, hsame.mono (by decide) (by decide)⟩
    ·
      show Steps p.tables e below (s₁.setTop (mkF m 7 #[.val (.ref va), .val (.int (2 : Int32)), .val (.int (3 : Int32)), .unset, .unset] [(.int (lcmpW x2 x3))])) _
      refine XS.ifNo X0.here hx rfl (hb hby d1_7) rfl ((if0 _ _).trans (tlt (((lw_gt _ _).mpr hc4) : (0 : Int32) < (lcmpW x2 x3))).2.2.2) ?_
      show Steps p.tables e below (s₁.setTop (mkF m 10 #[.val (.ref va), .val (.int (2 : Int32)), .val (.int (3 : Int32)), .unset, .unset] [])) _
      refine XS.aloadN X0.here hx rfl (hb hby d1_10) rfl rfl ?_
      show Steps p.tables e below (s₁.setTop (mkF m 11 #[.val (.ref va), .val (.int (2 : Int32)), .val (.int (3 : Int32)), .unset, .unset] [(.ref va)])) _
      refine XS.iloadN X0.here hx rfl (hb hby d1_11) rfl ?_
      show Steps p.tables e below (s₁.setTop (mkF m 12 #[.val (.ref va), .val (.int (2 : Int32)), .val (.int (3 : Int32)), .unset, .unset] [(.int (2 : Int32)), (.ref va)])) _
      refine X0.laload hx (j := (2 : Int32)) (v := (.long x2)) (by rw [e0]; exact Ar5.1) (State.isArrayOf_alike hZ.alike Ar5.2.1) Ar5.2.2 hin5 hat5 (g := (mkF m 12 #[.val (.ref va), .val (.int (2 : Int32)), .val (.int (3 : Int32)), .unset, .unset] [(.int (2 : Int32)), (.ref va)])) rfl rfl (hb hby d1_12) _ ?_
      show Steps p.tables e below (s₁.setTop (mkF m 13 #[.val (.ref va), .val (.int (2 : Int32)), .val (.int (3 : Int32)), .unset, .unset] [(.long x2)])) _
      refine XS.lstoreN X0.here hx rfl (hb hby d1_13) rfl (l' := #[.val (.ref va), .val (.int (2 : Int32)), .val (.int (3 : Int32)), .val (.long x2), .second]) rfl ?_
      show Steps p.tables e below (s₁.setTop (mkF m 14 #[.val (.ref va), .val (.int (2 : Int32)), .val (.int (3 : Int32)), .val (.long x2), .second] [])) _
      refine XS.aloadN X0.here hx rfl (hb hby d1_14) rfl rfl ?_
      show Steps p.tables e below (s₁.setTop (mkF m 15 #[.val (.ref va), .val (.int (2 : Int32)), .val (.int (3 : Int32)), .val (.long x2), .second] [(.ref va)])) _
      refine XS.iloadN X0.here hx rfl (hb hby d1_15) rfl ?_
      show Steps p.tables e below (s₁.setTop (mkF m 16 #[.val (.ref va), .val (.int (2 : Int32)), .val (.int (3 : Int32)), .val (.long x2), .second] [(.int (2 : Int32)), (.ref va)])) _
      refine XS.aloadN X0.here hx rfl (hb hby d1_16) rfl rfl ?_
      show Steps p.tables e below (s₁.setTop (mkF m 17 #[.val (.ref va), .val (.int (2 : Int32)), .val (.int (3 : Int32)), .val (.long x2), .second] [(.ref va), (.int (2 : Int32)), (.ref va)])) _
      refine XS.iloadN X0.here hx rfl (hb hby d1_17) rfl ?_
      show Steps p.tables e below (s₁.setTop (mkF m 18 #[.val (.ref va), .val (.int (2 : Int32)), .val (.int (3 : Int32)), .val (.long x2), .second] [(.int (3 : Int32)), (.ref va), (.int (2 : Int32)), (.ref va)])) _
      refine X0.laload hx (j := (3 : Int32)) (v := (.long x3)) (by rw [e0]; exact Ar6.1) (State.isArrayOf_alike hZ.alike Ar6.2.1) Ar6.2.2 hin6 hat6 (g := (mkF m 18 #[.val (.ref va), .val (.int (2 : Int32)), .val (.int (3 : Int32)), .val (.long x2), .second] [(.int (3 : Int32)), (.ref va), (.int (2 : Int32)), (.ref va)])) rfl rfl (hb hby d1_18) _ ?_
      show Steps p.tables e below (s₁.setTop (mkF m 19 #[.val (.ref va), .val (.int (2 : Int32)), .val (.int (3 : Int32)), .val (.long x2), .second] [(.long x3), (.int (2 : Int32)), (.ref va)])) _
      refine st8 _ ?_
      show Steps p.tables e below (T8.setTop (mkF m 20 #[.val (.ref va), .val (.int (2 : Int32)), .val (.int (3 : Int32)), .val (.long x2), .second] [])) _
      refine XS.aloadN X8.here hx rfl (hb hby d1_20) rfl rfl ?_
      show Steps p.tables e below (T8.setTop (mkF m 21 #[.val (.ref va), .val (.int (2 : Int32)), .val (.int (3 : Int32)), .val (.long x2), .second] [(.ref va)])) _
      refine XS.iloadN X8.here hx rfl (hb hby d1_21) rfl ?_
      show Steps p.tables e below (T8.setTop (mkF m 22 #[.val (.ref va), .val (.int (2 : Int32)), .val (.int (3 : Int32)), .val (.long x2), .second] [(.int (3 : Int32)), (.ref va)])) _
      refine XS.lloadN X8.here hx rfl (hb hby d1_22) rfl ?_
      show Steps p.tables e below (T8.setTop (mkF m 23 #[.val (.ref va), .val (.int (2 : Int32)), .val (.int (3 : Int32)), .val (.long x2), .second] [(.long x2), (.int (3 : Int32)), (.ref va)])) _
      refine st10 _ ?_
      show Steps p.tables e below (T10.setTop (mkF m 24 #[.val (.ref va), .val (.int (2 : Int32)), .val (.int (3 : Int32)), .val (.long x2), .second] [])) _
      exact X10.returnOut hx Bd.returns (hb hby d1_24) hr
    ·
      show QCs23 Z va kb x0 x1 x2 x3 h0 n0 _ T10.heap _
      rw [e10]
      exact ⟨rfl, N10, K10, (by rw [own_mn, own_mx, if_pos hc4, if_pos hc4]; exact V10)⟩
  ·
    obtain ⟨fs, hr, hrun, hended, hW, hsame⟩ := X0.leave (v := none) (fun _ => rfl) (hlocks := BodyLoose.notSynchronized Bd)
    refine ⟨_, _, pre3 _ ?_, hrun, hended, _, _, rfl, ?_, ⟨_, rfl⟩, hW, hsame.mono (by decide) (by decide)⟩
    ·
      show Steps p.tables e below (s₁.setTop (mkF m 7 #[.val (.ref va), .val (.int (2 : Int32)), .val (.int (3 : Int32)), .unset, .unset] [(.int (lcmpW x2 x3))])) _
      refine XS.ifYes X0.here hx rfl (pc0 := 7) (pc' := 24) rfl (hb hby d1_7) rfl ((if0 _ _).trans (flt ((fun q => hc4 ((lw_gt _ _).mp q)) : ¬ ((0 : Int32) < (lcmpW x2 x3)))).2.2.2) (by decide) (by decide) ?_
      show Steps p.tables e below (s₁.setTop (mkF m 24 #[.val (.ref va), .val (.int (2 : Int32)), .val (.int (3 : Int32)), .unset, .unset] [])) _
      exact X0.returnOut hx Bd.returns (hb hby d1_24) hr
    ·
      show QCs23 Z va kb x0 x1 x2 x3 h0 n0 _ s₁.heap _
      rw [e0]
      exact ⟨rfl, N0, (Keep.refl h0 [va]), (by rw [own_mn, own_mx, if_neg hc4, if_neg hc4]; exact Va)⟩
theorem ef_rmCs02 (m : MethodId) (x0 : Addr) (x1 : Int32) (x2 : Int32) : entryFrame m #[(.ref x0), (.int x1), (.int x2)] 5 = mkF m 0 #[.val (.ref x0), .val (.int x1), .val (.int x2), .unset, .unset] [] := by first | (simp [entryFrame, mkF, argsToLocals, Value.category]; done) | rfl
def QCs02 (Z : State) (va : Addr) (kb : ClassId) (x0 x1 x2 x3 : Int64) (h0 : Heap) (n0 : Nat) (v : Option Value) (h : Heap) (L : List Loc) : Prop := v = none ∧ Fr n0 L ∧ Keep h0 h [va] ∧ Arv Z h va kb .long (4 : Int32) [(.long (own_mn x0 x2)), (.long x1), (.long (own_mx x0 x2)), (.long x3)] (.long (0 : Int64))
set_option maxRecDepth 65536 in
set_option maxHeartbeats 40000000 in
theorem rmCs02 (l : Launch) (Z : State) (a0 : Array Value) (hw : ∀ d ∈ tables_1, d.before a0 Z = true) (ws : List Jvm.Cond) (va : Addr) (kb : ClassId) (x0 x1 x2 x3 : Int64) (h0 : Heap) (n0 : Nat) (Z0 : n0 ≤ h0.size) (Va : Arv Z h0 va kb .long (4 : Int32) [(.long x0), (.long x1), (.long x2), (.long x3)] (.long (0 : Int64))) (g_va : n0 ≤ va) :
    MetFree l (⟨"com/example/causeline/causeline/core/FilingPastPinLaw", "cs", "([JII)V"⟩ : MethodName) (head1 (Jvm.Cond.code (⟨"com/example/causeline/causeline/core/FilingPastPinLaw", "cs", "([JII)V"⟩ : MethodName) method_2_code 5 none :: ws) ({ frames := 0, cells := 0, slots := 0, locals := 0 } : Room)) (fun a U => a = #[(.ref va), (.int (0 : Int32)), (.int (2 : Int32))] ∧ Z.Warmed39 U.vm ∧ U.heap = h0) (fun _ _ _ _ _ => True) (fun _ U o U' => ∃ v L, o = .returned v ∧ QCs02 Z va kb x0 x1 x2 x3 h0 n0 v U'.heap L ∧ FrameEnd U o U' L ({ frames := 0, cells := 0, slots := 0, locals := 0 } : Room).cells ({ frames := 0, cells := 0, slots := 0, locals := 0 } : Room).slots) := by
  refine MetFree.of_bodySF (plainFor_of_name pn_23) hisR ?_
  intro p e s m args below meth c s₁ Bd hml0 hP hK
  obtain ⟨rfl, hZ, hh⟩ := hP
  have hx := Bd.exec
  have hby := Bd.bytes
  have hml : c.maxLocals = 5 := hml0
  have hown : s.vm.findClass "com/example/causeline/causeline/core/FilingPastPinLaw" = some m.cls := findClass_of_methodNamed Bd.named
  have hnm := (name_of_methodNamed Bd.named Bd.method).1
  have X0 : Stand p l e ({ frames := 0, cells := 0, slots := 0, locals := 0 } : Room) s m #[(.ref va), (.int (0 : Int32)), (.int (2 : Int32))] below meth c s₁ [] 0 0 := Stand.of_body Bd
  have e0 : s₁.heap = h0 := by rw [← hh, Bd.state]; rfl
  have N0 := Fr.nil n0
  have pre0 : ∀ t, Steps p.tables e below (s₁.setTop (mkF m 0 #[.val (.ref va), .val (.int (0 : Int32)), .val (.int (2 : Int32)), .unset, .unset] [])) t → Steps p.tables e below (s₁.setTop (entryFrame m #[(.ref va), (.int (0 : Int32)), (.int (2 : Int32))] 5)) t := fun t k => castTop (ef_rmCs02 m va (0 : Int32) (2 : Int32)) k
  obtain ⟨cl1, Ar1, q1, S1, NN1, HH1, GG1⟩ := id Va
  have hin1 : ¬ ((0 : Int32) < 0 ∨ cl1.slots.size ≤ ((0 : Int32)).toNatClampNeg) := inb_of S1 ⟨by decide, by decide⟩
  have hat1 : cl1.slots[((0 : Int32)).toNatClampNeg]? = some (.long x0) := HH1.at hin1 rfl
  obtain ⟨cl2, Ar2, q2, S2, NN2, HH2, GG2⟩ := id Va
  have hin2 : ¬ ((2 : Int32) < 0 ∨ cl2.slots.size ≤ ((2 : Int32)).toNatClampNeg) := inb_of S2 ⟨by decide, by decide⟩
  have hat2 : cl2.slots[((2 : Int32)).toNatClampNeg]? = some (.long x2) := HH2.at hin2 rfl
  have pre3 : ∀ t, Steps p.tables e below (s₁.setTop (mkF m 7 #[.val (.ref va), .val (.int (0 : Int32)), .val (.int (2 : Int32)), .unset, .unset] [(.int (lcmpW x0 x2))])) t → Steps p.tables e below (s₁.setTop (entryFrame m #[(.ref va), (.int (0 : Int32)), (.int (2 : Int32))] 5)) t := by
    intro t kt
    refine pre0 t ?_
    show Steps p.tables e below (s₁.setTop (mkF m 0 #[.val (.ref va), .val (.int (0 : Int32)), .val (.int (2 : Int32)), .unset, .unset] [])) _
    refine XS.aloadN X0.here hx rfl (hb hby d1_0) rfl rfl ?_
    show Steps p.tables e below (s₁.setTop (mkF m 1 #[.val (.ref va), .val (.int (0 : Int32)), .val (.int (2 : Int32)), .unset, .unset] [(.ref va)])) _
    refine XS.iloadN X0.here hx rfl (hb hby d1_1) rfl ?_
    show Steps p.tables e below (s₁.setTop (mkF m 2 #[.val (.ref va), .val (.int (0 : Int32)), .val (.int (2 : Int32)), .unset, .unset] [(.int (0 : Int32)), (.ref va)])) _
    refine X0.laload hx (j := (0 : Int32)) (v := (.long x0)) (by rw [e0]; exact Ar1.1) (State.isArrayOf_alike hZ.alike Ar1.2.1) Ar1.2.2 hin1 hat1 (g := (mkF m 2 #[.val (.ref va), .val (.int (0 : Int32)), .val (.int (2 : Int32)), .unset, .unset] [(.int (0 : Int32)), (.ref va)])) rfl rfl (hb hby d1_2) _ ?_
    show Steps p.tables e below (s₁.setTop (mkF m 3 #[.val (.ref va), .val (.int (0 : Int32)), .val (.int (2 : Int32)), .unset, .unset] [(.long x0)])) _
    refine XS.aloadN X0.here hx rfl (hb hby d1_3) rfl rfl ?_
    show Steps p.tables e below (s₁.setTop (mkF m 4 #[.val (.ref va), .val (.int (0 : Int32)), .val (.int (2 : Int32)), .unset, .unset] [(.ref va), (.long x0)])) _
    refine XS.iloadN X0.here hx rfl (hb hby d1_4) rfl ?_
    show Steps p.tables e below (s₁.setTop (mkF m 5 #[.val (.ref va), .val (.int (0 : Int32)), .val (.int (2 : Int32)), .unset, .unset] [(.int (2 : Int32)), (.ref va), (.long x0)])) _
    refine X0.laload hx (j := (2 : Int32)) (v := (.long x2)) (by rw [e0]; exact Ar2.1) (State.isArrayOf_alike hZ.alike Ar2.2.1) Ar2.2.2 hin2 hat2 (g := (mkF m 5 #[.val (.ref va), .val (.int (0 : Int32)), .val (.int (2 : Int32)), .unset, .unset] [(.int (2 : Int32)), (.ref va), (.long x0)])) rfl rfl (hb hby d1_5) _ ?_
    show Steps p.tables e below (s₁.setTop (mkF m 6 #[.val (.ref va), .val (.int (0 : Int32)), .val (.int (2 : Int32)), .unset, .unset] [(.long x2), (.long x0)])) _
    refine XS.lcmp X0.here hx rfl (hb hby d1_6) rfl ?_
    exact kt
  by_cases hc4 : x2 < x0
  ·
    obtain ⟨cl5, Ar5, q5, S5, NN5, HH5, GG5⟩ := id Va
    have hin5 : ¬ ((0 : Int32) < 0 ∨ cl5.slots.size ≤ ((0 : Int32)).toNatClampNeg) := inb_of S5 ⟨by decide, by decide⟩
    have hat5 : cl5.slots[((0 : Int32)).toNatClampNeg]? = some (.long x0) := HH5.at hin5 rfl
    obtain ⟨cl6, Ar6, q6, S6, NN6, HH6, GG6⟩ := id Va
    have hin6 : ¬ ((2 : Int32) < 0 ∨ cl6.slots.size ≤ ((2 : Int32)).toNatClampNeg) := inb_of S6 ⟨by decide, by decide⟩
    have hat6 : cl6.slots[((2 : Int32)).toNatClampNeg]? = some (.long x2) := HH6.at hin6 rfl
    obtain ⟨cl7, Ar7, q7, S7, NN7, HH7, GG7⟩ := id Va
    have hin7 : ¬ ((0 : Int32) < 0 ∨ cl7.slots.size ≤ ((0 : Int32)).toNatClampNeg) := inb_of S7 ⟨by decide, by decide⟩
    obtain ⟨T8, h8, X8, e8, W8, st8⟩ := stJ X0 hx hZ e0 Ar7 (j := (0 : Int32)) hin7  (g := (mkF m 19 #[.val (.ref va), .val (.int (0 : Int32)), .val (.int (2 : Int32)), .val (.long x0), .second] [(.long x2), (.int (0 : Int32)), (.ref va)])) rfl rfl (hb hby d1_19)
    have V8 : Arv Z h8 va kb .long (4 : Int32) [(.long x2), (.long x1), (.long x2), (.long x3)] (.long (0 : Int64)) := (Arv.set Ar7 q7 S7 NN7 HH7 GG7 rfl W8 0 rfl (Nat.le_of_ble_eq_true rfl))
    have Z8 : n0 ≤ h8.size := Nat.le_trans Z0 (Keep.of_wr W8).1
    have N8 := Fr.snoc X8 N0 g_va
    have K8 : Keep h0 h8 [va] := (Keep.refl h0 [va]).wr W8 (Or.inl (List.mem_of_getElem? (i := 0) rfl))
    obtain ⟨cl9, Ar9, q9, S9, NN9, HH9, GG9⟩ := id V8
    have hin9 : ¬ ((2 : Int32) < 0 ∨ cl9.slots.size ≤ ((2 : Int32)).toNatClampNeg) := inb_of S9 ⟨by decide, by decide⟩
    obtain ⟨T10, h10, X10, e10, W10, st10⟩ := stJ X8 hx hZ e8 Ar9 (j := (2 : Int32)) hin9  (g := (mkF m 23 #[.val (.ref va), .val (.int (0 : Int32)), .val (.int (2 : Int32)), .val (.long x0), .second] [(.long x0), (.int (2 : Int32)), (.ref va)])) rfl rfl (hb hby d1_23)
    have V10 : Arv Z h10 va kb .long (4 : Int32) [(.long x2), (.long x1), (.long x0), (.long x3)] (.long (0 : Int64)) := (Arv.set Ar9 q9 S9 NN9 HH9 GG9 rfl W10 2 rfl (Nat.le_of_ble_eq_true rfl))
    have Z10 : n0 ≤ h10.size := Nat.le_trans Z8 (Keep.of_wr W10).1
    have N10 := Fr.snoc X10 N8 g_va
    have K10 : Keep h0 h10 [va] := K8.wr W10 (Or.inl (List.mem_of_getElem? (i := 0) rfl))
    obtain ⟨fs, hr, hrun, hended, hW, hsame⟩ := X10.leave (v := none) (fun _ => rfl) (hlocks := BodyLoose.notSynchronized Bd)
    refine ⟨_, _, pre3 _ ?_, hrun, hended, _, _, rfl, ?_, ⟨_, rfl⟩, hW, hsame.mono (by decide) (by decide)⟩
    ·
      show Steps p.tables e below (s₁.setTop (mkF m 7 #[.val (.ref va), .val (.int (0 : Int32)), .val (.int (2 : Int32)), .unset, .unset] [(.int (lcmpW x0 x2))])) _
      refine XS.ifNo X0.here hx rfl (hb hby d1_7) rfl ((if0 _ _).trans (tlt (((lw_gt _ _).mpr hc4) : (0 : Int32) < (lcmpW x0 x2))).2.2.2) ?_
      show Steps p.tables e below (s₁.setTop (mkF m 10 #[.val (.ref va), .val (.int (0 : Int32)), .val (.int (2 : Int32)), .unset, .unset] [])) _
      refine XS.aloadN X0.here hx rfl (hb hby d1_10) rfl rfl ?_
      show Steps p.tables e below (s₁.setTop (mkF m 11 #[.val (.ref va), .val (.int (0 : Int32)), .val (.int (2 : Int32)), .unset, .unset] [(.ref va)])) _
      refine XS.iloadN X0.here hx rfl (hb hby d1_11) rfl ?_
      show Steps p.tables e below (s₁.setTop (mkF m 12 #[.val (.ref va), .val (.int (0 : Int32)), .val (.int (2 : Int32)), .unset, .unset] [(.int (0 : Int32)), (.ref va)])) _
      refine X0.laload hx (j := (0 : Int32)) (v := (.long x0)) (by rw [e0]; exact Ar5.1) (State.isArrayOf_alike hZ.alike Ar5.2.1) Ar5.2.2 hin5 hat5 (g := (mkF m 12 #[.val (.ref va), .val (.int (0 : Int32)), .val (.int (2 : Int32)), .unset, .unset] [(.int (0 : Int32)), (.ref va)])) rfl rfl (hb hby d1_12) _ ?_
      show Steps p.tables e below (s₁.setTop (mkF m 13 #[.val (.ref va), .val (.int (0 : Int32)), .val (.int (2 : Int32)), .unset, .unset] [(.long x0)])) _
      refine XS.lstoreN X0.here hx rfl (hb hby d1_13) rfl (l' := #[.val (.ref va), .val (.int (0 : Int32)), .val (.int (2 : Int32)), .val (.long x0), .second]) rfl ?_
      show Steps p.tables e below (s₁.setTop (mkF m 14 #[.val (.ref va), .val (.int (0 : Int32)), .val (.int (2 : Int32)), .val (.long x0), .second] [])) _
      refine XS.aloadN X0.here hx rfl (hb hby d1_14) rfl rfl ?_
      show Steps p.tables e below (s₁.setTop (mkF m 15 #[.val (.ref va), .val (.int (0 : Int32)), .val (.int (2 : Int32)), .val (.long x0), .second] [(.ref va)])) _
      refine XS.iloadN X0.here hx rfl (hb hby d1_15) rfl ?_
      show Steps p.tables e below (s₁.setTop (mkF m 16 #[.val (.ref va), .val (.int (0 : Int32)), .val (.int (2 : Int32)), .val (.long x0), .second] [(.int (0 : Int32)), (.ref va)])) _
      refine XS.aloadN X0.here hx rfl (hb hby d1_16) rfl rfl ?_
      show Steps p.tables e below (s₁.setTop (mkF m 17 #[.val (.ref va), .val (.int (0 : Int32)), .val (.int (2 : Int32)), .val (.long x0), .second] [(.ref va), (.int (0 : Int32)), (.ref va)])) _
      refine XS.iloadN X0.here hx rfl (hb hby d1_17) rfl ?_
      show Steps p.tables e below (s₁.setTop (mkF m 18 #[.val (.ref va), .val (.int (0 : Int32)), .val (.int (2 : Int32)), .val (.long x0), .second] [(.int (2 : Int32)), (.ref va), (.int (0 : Int32)), (.ref va)])) _
      refine X0.laload hx (j := (2 : Int32)) (v := (.long x2)) (by rw [e0]; exact Ar6.1) (State.isArrayOf_alike hZ.alike Ar6.2.1) Ar6.2.2 hin6 hat6 (g := (mkF m 18 #[.val (.ref va), .val (.int (0 : Int32)), .val (.int (2 : Int32)), .val (.long x0), .second] [(.int (2 : Int32)), (.ref va), (.int (0 : Int32)), (.ref va)])) rfl rfl (hb hby d1_18) _ ?_
      show Steps p.tables e below (s₁.setTop (mkF m 19 #[.val (.ref va), .val (.int (0 : Int32)), .val (.int (2 : Int32)), .val (.long x0), .second] [(.long x2), (.int (0 : Int32)), (.ref va)])) _
      refine st8 _ ?_
      show Steps p.tables e below (T8.setTop (mkF m 20 #[.val (.ref va), .val (.int (0 : Int32)), .val (.int (2 : Int32)), .val (.long x0), .second] [])) _
      refine XS.aloadN X8.here hx rfl (hb hby d1_20) rfl rfl ?_
      show Steps p.tables e below (T8.setTop (mkF m 21 #[.val (.ref va), .val (.int (0 : Int32)), .val (.int (2 : Int32)), .val (.long x0), .second] [(.ref va)])) _
      refine XS.iloadN X8.here hx rfl (hb hby d1_21) rfl ?_
      show Steps p.tables e below (T8.setTop (mkF m 22 #[.val (.ref va), .val (.int (0 : Int32)), .val (.int (2 : Int32)), .val (.long x0), .second] [(.int (2 : Int32)), (.ref va)])) _
      refine XS.lloadN X8.here hx rfl (hb hby d1_22) rfl ?_
      show Steps p.tables e below (T8.setTop (mkF m 23 #[.val (.ref va), .val (.int (0 : Int32)), .val (.int (2 : Int32)), .val (.long x0), .second] [(.long x0), (.int (2 : Int32)), (.ref va)])) _
      refine st10 _ ?_
      show Steps p.tables e below (T10.setTop (mkF m 24 #[.val (.ref va), .val (.int (0 : Int32)), .val (.int (2 : Int32)), .val (.long x0), .second] [])) _
      exact X10.returnOut hx Bd.returns (hb hby d1_24) hr
    ·
      show QCs02 Z va kb x0 x1 x2 x3 h0 n0 _ T10.heap _
      rw [e10]
      exact ⟨rfl, N10, K10, (by rw [own_mn, own_mx, if_pos hc4, if_pos hc4]; exact V10)⟩
  ·
    obtain ⟨fs, hr, hrun, hended, hW, hsame⟩ := X0.leave (v := none) (fun _ => rfl) (hlocks := BodyLoose.notSynchronized Bd)
    refine ⟨_, _, pre3 _ ?_, hrun, hended, _, _, rfl, ?_, ⟨_, rfl⟩, hW, hsame.mono (by decide) (by decide)⟩
    ·
      show Steps p.tables e below (s₁.setTop (mkF m 7 #[.val (.ref va), .val (.int (0 : Int32)), .val (.int (2 : Int32)), .unset, .unset] [(.int (lcmpW x0 x2))])) _
      refine XS.ifYes X0.here hx rfl (pc0 := 7) (pc' := 24) rfl (hb hby d1_7) rfl ((if0 _ _).trans (flt ((fun q => hc4 ((lw_gt _ _).mp q)) : ¬ ((0 : Int32) < (lcmpW x0 x2)))).2.2.2) (by decide) (by decide) ?_
      show Steps p.tables e below (s₁.setTop (mkF m 24 #[.val (.ref va), .val (.int (0 : Int32)), .val (.int (2 : Int32)), .unset, .unset] [])) _
      exact X0.returnOut hx Bd.returns (hb hby d1_24) hr
    ·
      show QCs02 Z va kb x0 x1 x2 x3 h0 n0 _ s₁.heap _
      rw [e0]
      exact ⟨rfl, N0, (Keep.refl h0 [va]), (by rw [own_mn, own_mx, if_neg hc4, if_neg hc4]; exact Va)⟩
theorem ef_rmCs13 (m : MethodId) (x0 : Addr) (x1 : Int32) (x2 : Int32) : entryFrame m #[(.ref x0), (.int x1), (.int x2)] 5 = mkF m 0 #[.val (.ref x0), .val (.int x1), .val (.int x2), .unset, .unset] [] := by first | (simp [entryFrame, mkF, argsToLocals, Value.category]; done) | rfl
def QCs13 (Z : State) (va : Addr) (kb : ClassId) (x0 x1 x2 x3 : Int64) (h0 : Heap) (n0 : Nat) (v : Option Value) (h : Heap) (L : List Loc) : Prop := v = none ∧ Fr n0 L ∧ Keep h0 h [va] ∧ Arv Z h va kb .long (4 : Int32) [(.long x0), (.long (own_mn x1 x3)), (.long x2), (.long (own_mx x1 x3))] (.long (0 : Int64))
set_option maxRecDepth 65536 in
set_option maxHeartbeats 40000000 in
theorem rmCs13 (l : Launch) (Z : State) (a0 : Array Value) (hw : ∀ d ∈ tables_1, d.before a0 Z = true) (ws : List Jvm.Cond) (va : Addr) (kb : ClassId) (x0 x1 x2 x3 : Int64) (h0 : Heap) (n0 : Nat) (Z0 : n0 ≤ h0.size) (Va : Arv Z h0 va kb .long (4 : Int32) [(.long x0), (.long x1), (.long x2), (.long x3)] (.long (0 : Int64))) (g_va : n0 ≤ va) :
    MetFree l (⟨"com/example/causeline/causeline/core/FilingPastPinLaw", "cs", "([JII)V"⟩ : MethodName) (head1 (Jvm.Cond.code (⟨"com/example/causeline/causeline/core/FilingPastPinLaw", "cs", "([JII)V"⟩ : MethodName) method_2_code 5 none :: ws) ({ frames := 0, cells := 0, slots := 0, locals := 0 } : Room)) (fun a U => a = #[(.ref va), (.int (1 : Int32)), (.int (3 : Int32))] ∧ Z.Warmed39 U.vm ∧ U.heap = h0) (fun _ _ _ _ _ => True) (fun _ U o U' => ∃ v L, o = .returned v ∧ QCs13 Z va kb x0 x1 x2 x3 h0 n0 v U'.heap L ∧ FrameEnd U o U' L ({ frames := 0, cells := 0, slots := 0, locals := 0 } : Room).cells ({ frames := 0, cells := 0, slots := 0, locals := 0 } : Room).slots) := by
  refine MetFree.of_bodySF (plainFor_of_name pn_23) hisR ?_
  intro p e s m args below meth c s₁ Bd hml0 hP hK
  obtain ⟨rfl, hZ, hh⟩ := hP
  have hx := Bd.exec
  have hby := Bd.bytes
  have hml : c.maxLocals = 5 := hml0
  have hown : s.vm.findClass "com/example/causeline/causeline/core/FilingPastPinLaw" = some m.cls := findClass_of_methodNamed Bd.named
  have hnm := (name_of_methodNamed Bd.named Bd.method).1
  have X0 : Stand p l e ({ frames := 0, cells := 0, slots := 0, locals := 0 } : Room) s m #[(.ref va), (.int (1 : Int32)), (.int (3 : Int32))] below meth c s₁ [] 0 0 := Stand.of_body Bd
  have e0 : s₁.heap = h0 := by rw [← hh, Bd.state]; rfl
  have N0 := Fr.nil n0
  have pre0 : ∀ t, Steps p.tables e below (s₁.setTop (mkF m 0 #[.val (.ref va), .val (.int (1 : Int32)), .val (.int (3 : Int32)), .unset, .unset] [])) t → Steps p.tables e below (s₁.setTop (entryFrame m #[(.ref va), (.int (1 : Int32)), (.int (3 : Int32))] 5)) t := fun t k => castTop (ef_rmCs13 m va (1 : Int32) (3 : Int32)) k
  obtain ⟨cl1, Ar1, q1, S1, NN1, HH1, GG1⟩ := id Va
  have hin1 : ¬ ((1 : Int32) < 0 ∨ cl1.slots.size ≤ ((1 : Int32)).toNatClampNeg) := inb_of S1 ⟨by decide, by decide⟩
  have hat1 : cl1.slots[((1 : Int32)).toNatClampNeg]? = some (.long x1) := HH1.at hin1 rfl
  obtain ⟨cl2, Ar2, q2, S2, NN2, HH2, GG2⟩ := id Va
  have hin2 : ¬ ((3 : Int32) < 0 ∨ cl2.slots.size ≤ ((3 : Int32)).toNatClampNeg) := inb_of S2 ⟨by decide, by decide⟩
  have hat2 : cl2.slots[((3 : Int32)).toNatClampNeg]? = some (.long x3) := HH2.at hin2 rfl
  have pre3 : ∀ t, Steps p.tables e below (s₁.setTop (mkF m 7 #[.val (.ref va), .val (.int (1 : Int32)), .val (.int (3 : Int32)), .unset, .unset] [(.int (lcmpW x1 x3))])) t → Steps p.tables e below (s₁.setTop (entryFrame m #[(.ref va), (.int (1 : Int32)), (.int (3 : Int32))] 5)) t := by
    intro t kt
    refine pre0 t ?_
    show Steps p.tables e below (s₁.setTop (mkF m 0 #[.val (.ref va), .val (.int (1 : Int32)), .val (.int (3 : Int32)), .unset, .unset] [])) _
    refine XS.aloadN X0.here hx rfl (hb hby d1_0) rfl rfl ?_
    show Steps p.tables e below (s₁.setTop (mkF m 1 #[.val (.ref va), .val (.int (1 : Int32)), .val (.int (3 : Int32)), .unset, .unset] [(.ref va)])) _
    refine XS.iloadN X0.here hx rfl (hb hby d1_1) rfl ?_
    show Steps p.tables e below (s₁.setTop (mkF m 2 #[.val (.ref va), .val (.int (1 : Int32)), .val (.int (3 : Int32)), .unset, .unset] [(.int (1 : Int32)), (.ref va)])) _
    refine X0.laload hx (j := (1 : Int32)) (v := (.long x1)) (by rw [e0]; exact Ar1.1) (State.isArrayOf_alike hZ.alike Ar1.2.1) Ar1.2.2 hin1 hat1 (g := (mkF m 2 #[.val (.ref va), .val (.int (1 : Int32)), .val (.int (3 : Int32)), .unset, .unset] [(.int (1 : Int32)), (.ref va)])) rfl rfl (hb hby d1_2) _ ?_
    show Steps p.tables e below (s₁.setTop (mkF m 3 #[.val (.ref va), .val (.int (1 : Int32)), .val (.int (3 : Int32)), .unset, .unset] [(.long x1)])) _
    refine XS.aloadN X0.here hx rfl (hb hby d1_3) rfl rfl ?_
    show Steps p.tables e below (s₁.setTop (mkF m 4 #[.val (.ref va), .val (.int (1 : Int32)), .val (.int (3 : Int32)), .unset, .unset] [(.ref va), (.long x1)])) _
    refine XS.iloadN X0.here hx rfl (hb hby d1_4) rfl ?_
    show Steps p.tables e below (s₁.setTop (mkF m 5 #[.val (.ref va), .val (.int (1 : Int32)), .val (.int (3 : Int32)), .unset, .unset] [(.int (3 : Int32)), (.ref va), (.long x1)])) _
    refine X0.laload hx (j := (3 : Int32)) (v := (.long x3)) (by rw [e0]; exact Ar2.1) (State.isArrayOf_alike hZ.alike Ar2.2.1) Ar2.2.2 hin2 hat2 (g := (mkF m 5 #[.val (.ref va), .val (.int (1 : Int32)), .val (.int (3 : Int32)), .unset, .unset] [(.int (3 : Int32)), (.ref va), (.long x1)])) rfl rfl (hb hby d1_5) _ ?_
    show Steps p.tables e below (s₁.setTop (mkF m 6 #[.val (.ref va), .val (.int (1 : Int32)), .val (.int (3 : Int32)), .unset, .unset] [(.long x3), (.long x1)])) _
    refine XS.lcmp X0.here hx rfl (hb hby d1_6) rfl ?_
    exact kt
  by_cases hc4 : x3 < x1
  ·
    obtain ⟨cl5, Ar5, q5, S5, NN5, HH5, GG5⟩ := id Va
    have hin5 : ¬ ((1 : Int32) < 0 ∨ cl5.slots.size ≤ ((1 : Int32)).toNatClampNeg) := inb_of S5 ⟨by decide, by decide⟩
    have hat5 : cl5.slots[((1 : Int32)).toNatClampNeg]? = some (.long x1) := HH5.at hin5 rfl
    obtain ⟨cl6, Ar6, q6, S6, NN6, HH6, GG6⟩ := id Va
    have hin6 : ¬ ((3 : Int32) < 0 ∨ cl6.slots.size ≤ ((3 : Int32)).toNatClampNeg) := inb_of S6 ⟨by decide, by decide⟩
    have hat6 : cl6.slots[((3 : Int32)).toNatClampNeg]? = some (.long x3) := HH6.at hin6 rfl
    obtain ⟨cl7, Ar7, q7, S7, NN7, HH7, GG7⟩ := id Va
    have hin7 : ¬ ((1 : Int32) < 0 ∨ cl7.slots.size ≤ ((1 : Int32)).toNatClampNeg) := inb_of S7 ⟨by decide, by decide⟩
    obtain ⟨T8, h8, X8, e8, W8, st8⟩ := stJ X0 hx hZ e0 Ar7 (j := (1 : Int32)) hin7  (g := (mkF m 19 #[.val (.ref va), .val (.int (1 : Int32)), .val (.int (3 : Int32)), .val (.long x1), .second] [(.long x3), (.int (1 : Int32)), (.ref va)])) rfl rfl (hb hby d1_19)
    have V8 : Arv Z h8 va kb .long (4 : Int32) [(.long x0), (.long x3), (.long x2), (.long x3)] (.long (0 : Int64)) := (Arv.set Ar7 q7 S7 NN7 HH7 GG7 rfl W8 1 rfl (Nat.le_of_ble_eq_true rfl))
    have Z8 : n0 ≤ h8.size := Nat.le_trans Z0 (Keep.of_wr W8).1
    have N8 := Fr.snoc X8 N0 g_va
    have K8 : Keep h0 h8 [va] := (Keep.refl h0 [va]).wr W8 (Or.inl (List.mem_of_getElem? (i := 0) rfl))
    obtain ⟨cl9, Ar9, q9, S9, NN9, HH9, GG9⟩ := id V8
    have hin9 : ¬ ((3 : Int32) < 0 ∨ cl9.slots.size ≤ ((3 : Int32)).toNatClampNeg) := inb_of S9 ⟨by decide, by decide⟩
    obtain ⟨T10, h10, X10, e10, W10, st10⟩ := stJ X8 hx hZ e8 Ar9 (j := (3 : Int32)) hin9  (g := (mkF m 23 #[.val (.ref va), .val (.int (1 : Int32)), .val (.int (3 : Int32)), .val (.long x1), .second] [(.long x1), (.int (3 : Int32)), (.ref va)])) rfl rfl (hb hby d1_23)
    have V10 : Arv Z h10 va kb .long (4 : Int32) [(.long x0), (.long x3), (.long x2), (.long x1)] (.long (0 : Int64)) := (Arv.set Ar9 q9 S9 NN9 HH9 GG9 rfl W10 3 rfl (Nat.le_of_ble_eq_true rfl))
    have Z10 : n0 ≤ h10.size := Nat.le_trans Z8 (Keep.of_wr W10).1
    have N10 := Fr.snoc X10 N8 g_va
    have K10 : Keep h0 h10 [va] := K8.wr W10 (Or.inl (List.mem_of_getElem? (i := 0) rfl))
    obtain ⟨fs, hr, hrun, hended, hW, hsame⟩ := X10.leave (v := none) (fun _ => rfl) (hlocks := BodyLoose.notSynchronized Bd)
    refine ⟨_, _, pre3 _ ?_, hrun, hended, _, _, rfl, ?_, ⟨_, rfl⟩, hW, hsame.mono (by decide) (by decide)⟩
    ·
      show Steps p.tables e below (s₁.setTop (mkF m 7 #[.val (.ref va), .val (.int (1 : Int32)), .val (.int (3 : Int32)), .unset, .unset] [(.int (lcmpW x1 x3))])) _
      refine XS.ifNo X0.here hx rfl (hb hby d1_7) rfl ((if0 _ _).trans (tlt (((lw_gt _ _).mpr hc4) : (0 : Int32) < (lcmpW x1 x3))).2.2.2) ?_
      show Steps p.tables e below (s₁.setTop (mkF m 10 #[.val (.ref va), .val (.int (1 : Int32)), .val (.int (3 : Int32)), .unset, .unset] [])) _
      refine XS.aloadN X0.here hx rfl (hb hby d1_10) rfl rfl ?_
      show Steps p.tables e below (s₁.setTop (mkF m 11 #[.val (.ref va), .val (.int (1 : Int32)), .val (.int (3 : Int32)), .unset, .unset] [(.ref va)])) _
      refine XS.iloadN X0.here hx rfl (hb hby d1_11) rfl ?_
      show Steps p.tables e below (s₁.setTop (mkF m 12 #[.val (.ref va), .val (.int (1 : Int32)), .val (.int (3 : Int32)), .unset, .unset] [(.int (1 : Int32)), (.ref va)])) _
      refine X0.laload hx (j := (1 : Int32)) (v := (.long x1)) (by rw [e0]; exact Ar5.1) (State.isArrayOf_alike hZ.alike Ar5.2.1) Ar5.2.2 hin5 hat5 (g := (mkF m 12 #[.val (.ref va), .val (.int (1 : Int32)), .val (.int (3 : Int32)), .unset, .unset] [(.int (1 : Int32)), (.ref va)])) rfl rfl (hb hby d1_12) _ ?_
      show Steps p.tables e below (s₁.setTop (mkF m 13 #[.val (.ref va), .val (.int (1 : Int32)), .val (.int (3 : Int32)), .unset, .unset] [(.long x1)])) _
      refine XS.lstoreN X0.here hx rfl (hb hby d1_13) rfl (l' := #[.val (.ref va), .val (.int (1 : Int32)), .val (.int (3 : Int32)), .val (.long x1), .second]) rfl ?_
      show Steps p.tables e below (s₁.setTop (mkF m 14 #[.val (.ref va), .val (.int (1 : Int32)), .val (.int (3 : Int32)), .val (.long x1), .second] [])) _
      refine XS.aloadN X0.here hx rfl (hb hby d1_14) rfl rfl ?_
      show Steps p.tables e below (s₁.setTop (mkF m 15 #[.val (.ref va), .val (.int (1 : Int32)), .val (.int (3 : Int32)), .val (.long x1), .second] [(.ref va)])) _
      refine XS.iloadN X0.here hx rfl (hb hby d1_15) rfl ?_
      show Steps p.tables e below (s₁.setTop (mkF m 16 #[.val (.ref va), .val (.int (1 : Int32)), .val (.int (3 : Int32)), .val (.long x1), .second] [(.int (1 : Int32)), (.ref va)])) _
      refine XS.aloadN X0.here hx rfl (hb hby d1_16) rfl rfl ?_
      show Steps p.tables e below (s₁.setTop (mkF m 17 #[.val (.ref va), .val (.int (1 : Int32)), .val (.int (3 : Int32)), .val (.long x1), .second] [(.ref va), (.int (1 : Int32)), (.ref va)])) _
      refine XS.iloadN X0.here hx rfl (hb hby d1_17) rfl ?_
      show Steps p.tables e below (s₁.setTop (mkF m 18 #[.val (.ref va), .val (.int (1 : Int32)), .val (.int (3 : Int32)), .val (.long x1), .second] [(.int (3 : Int32)), (.ref va), (.int (1 : Int32)), (.ref va)])) _
      refine X0.laload hx (j := (3 : Int32)) (v := (.long x3)) (by rw [e0]; exact Ar6.1) (State.isArrayOf_alike hZ.alike Ar6.2.1) Ar6.2.2 hin6 hat6 (g := (mkF m 18 #[.val (.ref va), .val (.int (1 : Int32)), .val (.int (3 : Int32)), .val (.long x1), .second] [(.int (3 : Int32)), (.ref va), (.int (1 : Int32)), (.ref va)])) rfl rfl (hb hby d1_18) _ ?_
      show Steps p.tables e below (s₁.setTop (mkF m 19 #[.val (.ref va), .val (.int (1 : Int32)), .val (.int (3 : Int32)), .val (.long x1), .second] [(.long x3), (.int (1 : Int32)), (.ref va)])) _
      refine st8 _ ?_
      show Steps p.tables e below (T8.setTop (mkF m 20 #[.val (.ref va), .val (.int (1 : Int32)), .val (.int (3 : Int32)), .val (.long x1), .second] [])) _
      refine XS.aloadN X8.here hx rfl (hb hby d1_20) rfl rfl ?_
      show Steps p.tables e below (T8.setTop (mkF m 21 #[.val (.ref va), .val (.int (1 : Int32)), .val (.int (3 : Int32)), .val (.long x1), .second] [(.ref va)])) _
      refine XS.iloadN X8.here hx rfl (hb hby d1_21) rfl ?_
      show Steps p.tables e below (T8.setTop (mkF m 22 #[.val (.ref va), .val (.int (1 : Int32)), .val (.int (3 : Int32)), .val (.long x1), .second] [(.int (3 : Int32)), (.ref va)])) _
      refine XS.lloadN X8.here hx rfl (hb hby d1_22) rfl ?_
      show Steps p.tables e below (T8.setTop (mkF m 23 #[.val (.ref va), .val (.int (1 : Int32)), .val (.int (3 : Int32)), .val (.long x1), .second] [(.long x1), (.int (3 : Int32)), (.ref va)])) _
      refine st10 _ ?_
      show Steps p.tables e below (T10.setTop (mkF m 24 #[.val (.ref va), .val (.int (1 : Int32)), .val (.int (3 : Int32)), .val (.long x1), .second] [])) _
      exact X10.returnOut hx Bd.returns (hb hby d1_24) hr
    ·
      show QCs13 Z va kb x0 x1 x2 x3 h0 n0 _ T10.heap _
      rw [e10]
      exact ⟨rfl, N10, K10, (by rw [own_mn, own_mx, if_pos hc4, if_pos hc4]; exact V10)⟩
  ·
    obtain ⟨fs, hr, hrun, hended, hW, hsame⟩ := X0.leave (v := none) (fun _ => rfl) (hlocks := BodyLoose.notSynchronized Bd)
    refine ⟨_, _, pre3 _ ?_, hrun, hended, _, _, rfl, ?_, ⟨_, rfl⟩, hW, hsame.mono (by decide) (by decide)⟩
    ·
      show Steps p.tables e below (s₁.setTop (mkF m 7 #[.val (.ref va), .val (.int (1 : Int32)), .val (.int (3 : Int32)), .unset, .unset] [(.int (lcmpW x1 x3))])) _
      refine XS.ifYes X0.here hx rfl (pc0 := 7) (pc' := 24) rfl (hb hby d1_7) rfl ((if0 _ _).trans (flt ((fun q => hc4 ((lw_gt _ _).mp q)) : ¬ ((0 : Int32) < (lcmpW x1 x3)))).2.2.2) (by decide) (by decide) ?_
      show Steps p.tables e below (s₁.setTop (mkF m 24 #[.val (.ref va), .val (.int (1 : Int32)), .val (.int (3 : Int32)), .unset, .unset] [])) _
      exact X0.returnOut hx Bd.returns (hb hby d1_24) hr
    ·
      show QCs13 Z va kb x0 x1 x2 x3 h0 n0 _ s₁.heap _
      rw [e0]
      exact ⟨rfl, N0, (Keep.refl h0 [va]), (by rw [own_mn, own_mx, if_neg hc4, if_neg hc4]; exact Va)⟩
theorem ef_rmCs12 (m : MethodId) (x0 : Addr) (x1 : Int32) (x2 : Int32) : entryFrame m #[(.ref x0), (.int x1), (.int x2)] 5 = mkF m 0 #[.val (.ref x0), .val (.int x1), .val (.int x2), .unset, .unset] [] := by first | (simp [entryFrame, mkF, argsToLocals, Value.category]; done) | rfl
def QCs12 (Z : State) (va : Addr) (kb : ClassId) (x0 x1 x2 x3 : Int64) (h0 : Heap) (n0 : Nat) (v : Option Value) (h : Heap) (L : List Loc) : Prop := v = none ∧ Fr n0 L ∧ Keep h0 h [va] ∧ Arv Z h va kb .long (4 : Int32) [(.long x0), (.long (own_mn x1 x2)), (.long (own_mx x1 x2)), (.long x3)] (.long (0 : Int64))
set_option maxRecDepth 65536 in
set_option maxHeartbeats 40000000 in
theorem rmCs12 (l : Launch) (Z : State) (a0 : Array Value) (hw : ∀ d ∈ tables_1, d.before a0 Z = true) (ws : List Jvm.Cond) (va : Addr) (kb : ClassId) (x0 x1 x2 x3 : Int64) (h0 : Heap) (n0 : Nat) (Z0 : n0 ≤ h0.size) (Va : Arv Z h0 va kb .long (4 : Int32) [(.long x0), (.long x1), (.long x2), (.long x3)] (.long (0 : Int64))) (g_va : n0 ≤ va) :
    MetFree l (⟨"com/example/causeline/causeline/core/FilingPastPinLaw", "cs", "([JII)V"⟩ : MethodName) (head1 (Jvm.Cond.code (⟨"com/example/causeline/causeline/core/FilingPastPinLaw", "cs", "([JII)V"⟩ : MethodName) method_2_code 5 none :: ws) ({ frames := 0, cells := 0, slots := 0, locals := 0 } : Room)) (fun a U => a = #[(.ref va), (.int (1 : Int32)), (.int (2 : Int32))] ∧ Z.Warmed39 U.vm ∧ U.heap = h0) (fun _ _ _ _ _ => True) (fun _ U o U' => ∃ v L, o = .returned v ∧ QCs12 Z va kb x0 x1 x2 x3 h0 n0 v U'.heap L ∧ FrameEnd U o U' L ({ frames := 0, cells := 0, slots := 0, locals := 0 } : Room).cells ({ frames := 0, cells := 0, slots := 0, locals := 0 } : Room).slots) := by
  refine MetFree.of_bodySF (plainFor_of_name pn_23) hisR ?_
  intro p e s m args below meth c s₁ Bd hml0 hP hK
  obtain ⟨rfl, hZ, hh⟩ := hP
  have hx := Bd.exec
  have hby := Bd.bytes
  have hml : c.maxLocals = 5 := hml0
  have hown : s.vm.findClass "com/example/causeline/causeline/core/FilingPastPinLaw" = some m.cls := findClass_of_methodNamed Bd.named
  have hnm := (name_of_methodNamed Bd.named Bd.method).1
  have X0 : Stand p l e ({ frames := 0, cells := 0, slots := 0, locals := 0 } : Room) s m #[(.ref va), (.int (1 : Int32)), (.int (2 : Int32))] below meth c s₁ [] 0 0 := Stand.of_body Bd
  have e0 : s₁.heap = h0 := by rw [← hh, Bd.state]; rfl
  have N0 := Fr.nil n0
  have pre0 : ∀ t, Steps p.tables e below (s₁.setTop (mkF m 0 #[.val (.ref va), .val (.int (1 : Int32)), .val (.int (2 : Int32)), .unset, .unset] [])) t → Steps p.tables e below (s₁.setTop (entryFrame m #[(.ref va), (.int (1 : Int32)), (.int (2 : Int32))] 5)) t := fun t k => castTop (ef_rmCs12 m va (1 : Int32) (2 : Int32)) k
  obtain ⟨cl1, Ar1, q1, S1, NN1, HH1, GG1⟩ := id Va
  have hin1 : ¬ ((1 : Int32) < 0 ∨ cl1.slots.size ≤ ((1 : Int32)).toNatClampNeg) := inb_of S1 ⟨by decide, by decide⟩
  have hat1 : cl1.slots[((1 : Int32)).toNatClampNeg]? = some (.long x1) := HH1.at hin1 rfl
  obtain ⟨cl2, Ar2, q2, S2, NN2, HH2, GG2⟩ := id Va
  have hin2 : ¬ ((2 : Int32) < 0 ∨ cl2.slots.size ≤ ((2 : Int32)).toNatClampNeg) := inb_of S2 ⟨by decide, by decide⟩
  have hat2 : cl2.slots[((2 : Int32)).toNatClampNeg]? = some (.long x2) := HH2.at hin2 rfl
  have pre3 : ∀ t, Steps p.tables e below (s₁.setTop (mkF m 7 #[.val (.ref va), .val (.int (1 : Int32)), .val (.int (2 : Int32)), .unset, .unset] [(.int (lcmpW x1 x2))])) t → Steps p.tables e below (s₁.setTop (entryFrame m #[(.ref va), (.int (1 : Int32)), (.int (2 : Int32))] 5)) t := by
    intro t kt
    refine pre0 t ?_
    show Steps p.tables e below (s₁.setTop (mkF m 0 #[.val (.ref va), .val (.int (1 : Int32)), .val (.int (2 : Int32)), .unset, .unset] [])) _
    refine XS.aloadN X0.here hx rfl (hb hby d1_0) rfl rfl ?_
    show Steps p.tables e below (s₁.setTop (mkF m 1 #[.val (.ref va), .val (.int (1 : Int32)), .val (.int (2 : Int32)), .unset, .unset] [(.ref va)])) _
    refine XS.iloadN X0.here hx rfl (hb hby d1_1) rfl ?_
    show Steps p.tables e below (s₁.setTop (mkF m 2 #[.val (.ref va), .val (.int (1 : Int32)), .val (.int (2 : Int32)), .unset, .unset] [(.int (1 : Int32)), (.ref va)])) _
    refine X0.laload hx (j := (1 : Int32)) (v := (.long x1)) (by rw [e0]; exact Ar1.1) (State.isArrayOf_alike hZ.alike Ar1.2.1) Ar1.2.2 hin1 hat1 (g := (mkF m 2 #[.val (.ref va), .val (.int (1 : Int32)), .val (.int (2 : Int32)), .unset, .unset] [(.int (1 : Int32)), (.ref va)])) rfl rfl (hb hby d1_2) _ ?_
    show Steps p.tables e below (s₁.setTop (mkF m 3 #[.val (.ref va), .val (.int (1 : Int32)), .val (.int (2 : Int32)), .unset, .unset] [(.long x1)])) _
    refine XS.aloadN X0.here hx rfl (hb hby d1_3) rfl rfl ?_
    show Steps p.tables e below (s₁.setTop (mkF m 4 #[.val (.ref va), .val (.int (1 : Int32)), .val (.int (2 : Int32)), .unset, .unset] [(.ref va), (.long x1)])) _
    refine XS.iloadN X0.here hx rfl (hb hby d1_4) rfl ?_
    show Steps p.tables e below (s₁.setTop (mkF m 5 #[.val (.ref va), .val (.int (1 : Int32)), .val (.int (2 : Int32)), .unset, .unset] [(.int (2 : Int32)), (.ref va), (.long x1)])) _
    refine X0.laload hx (j := (2 : Int32)) (v := (.long x2)) (by rw [e0]; exact Ar2.1) (State.isArrayOf_alike hZ.alike Ar2.2.1) Ar2.2.2 hin2 hat2 (g := (mkF m 5 #[.val (.ref va), .val (.int (1 : Int32)), .val (.int (2 : Int32)), .unset, .unset] [(.int (2 : Int32)), (.ref va), (.long x1)])) rfl rfl (hb hby d1_5) _ ?_
    show Steps p.tables e below (s₁.setTop (mkF m 6 #[.val (.ref va), .val (.int (1 : Int32)), .val (.int (2 : Int32)), .unset, .unset] [(.long x2), (.long x1)])) _
    refine XS.lcmp X0.here hx rfl (hb hby d1_6) rfl ?_
    exact kt
  by_cases hc4 : x2 < x1
  ·
    obtain ⟨cl5, Ar5, q5, S5, NN5, HH5, GG5⟩ := id Va
    have hin5 : ¬ ((1 : Int32) < 0 ∨ cl5.slots.size ≤ ((1 : Int32)).toNatClampNeg) := inb_of S5 ⟨by decide, by decide⟩
    have hat5 : cl5.slots[((1 : Int32)).toNatClampNeg]? = some (.long x1) := HH5.at hin5 rfl
    obtain ⟨cl6, Ar6, q6, S6, NN6, HH6, GG6⟩ := id Va
    have hin6 : ¬ ((2 : Int32) < 0 ∨ cl6.slots.size ≤ ((2 : Int32)).toNatClampNeg) := inb_of S6 ⟨by decide, by decide⟩
    have hat6 : cl6.slots[((2 : Int32)).toNatClampNeg]? = some (.long x2) := HH6.at hin6 rfl
    obtain ⟨cl7, Ar7, q7, S7, NN7, HH7, GG7⟩ := id Va
    have hin7 : ¬ ((1 : Int32) < 0 ∨ cl7.slots.size ≤ ((1 : Int32)).toNatClampNeg) := inb_of S7 ⟨by decide, by decide⟩
    obtain ⟨T8, h8, X8, e8, W8, st8⟩ := stJ X0 hx hZ e0 Ar7 (j := (1 : Int32)) hin7  (g := (mkF m 19 #[.val (.ref va), .val (.int (1 : Int32)), .val (.int (2 : Int32)), .val (.long x1), .second] [(.long x2), (.int (1 : Int32)), (.ref va)])) rfl rfl (hb hby d1_19)
    have V8 : Arv Z h8 va kb .long (4 : Int32) [(.long x0), (.long x2), (.long x2), (.long x3)] (.long (0 : Int64)) := (Arv.set Ar7 q7 S7 NN7 HH7 GG7 rfl W8 1 rfl (Nat.le_of_ble_eq_true rfl))
    have Z8 : n0 ≤ h8.size := Nat.le_trans Z0 (Keep.of_wr W8).1
    have N8 := Fr.snoc X8 N0 g_va
    have K8 : Keep h0 h8 [va] := (Keep.refl h0 [va]).wr W8 (Or.inl (List.mem_of_getElem? (i := 0) rfl))
    obtain ⟨cl9, Ar9, q9, S9, NN9, HH9, GG9⟩ := id V8
    have hin9 : ¬ ((2 : Int32) < 0 ∨ cl9.slots.size ≤ ((2 : Int32)).toNatClampNeg) := inb_of S9 ⟨by decide, by decide⟩
    obtain ⟨T10, h10, X10, e10, W10, st10⟩ := stJ X8 hx hZ e8 Ar9 (j := (2 : Int32)) hin9  (g := (mkF m 23 #[.val (.ref va), .val (.int (1 : Int32)), .val (.int (2 : Int32)), .val (.long x1), .second] [(.long x1), (.int (2 : Int32)), (.ref va)])) rfl rfl (hb hby d1_23)
    have V10 : Arv Z h10 va kb .long (4 : Int32) [(.long x0), (.long x2), (.long x1), (.long x3)] (.long (0 : Int64)) := (Arv.set Ar9 q9 S9 NN9 HH9 GG9 rfl W10 2 rfl (Nat.le_of_ble_eq_true rfl))
    have Z10 : n0 ≤ h10.size := Nat.le_trans Z8 (Keep.of_wr W10).1
    have N10 := Fr.snoc X10 N8 g_va
    have K10 : Keep h0 h10 [va] := K8.wr W10 (Or.inl (List.mem_of_getElem? (i := 0) rfl))
    obtain ⟨fs, hr, hrun, hended, hW, hsame⟩ := X10.leave (v := none) (fun _ => rfl) (hlocks := BodyLoose.notSynchronized Bd)
    refine ⟨_, _, pre3 _ ?_, hrun, hended, _, _, rfl, ?_, ⟨_, rfl⟩, hW, hsame.mono (by decide) (by decide)⟩
    ·
      show Steps p.tables e below (s₁.setTop (mkF m 7 #[.val (.ref va), .val (.int (1 : Int32)), .val (.int (2 : Int32)), .unset, .unset] [(.int (lcmpW x1 x2))])) _
      refine XS.ifNo X0.here hx rfl (hb hby d1_7) rfl ((if0 _ _).trans (tlt (((lw_gt _ _).mpr hc4) : (0 : Int32) < (lcmpW x1 x2))).2.2.2) ?_
      show Steps p.tables e below (s₁.setTop (mkF m 10 #[.val (.ref va), .val (.int (1 : Int32)), .val (.int (2 : Int32)), .unset, .unset] [])) _
      refine XS.aloadN X0.here hx rfl (hb hby d1_10) rfl rfl ?_
      show Steps p.tables e below (s₁.setTop (mkF m 11 #[.val (.ref va), .val (.int (1 : Int32)), .val (.int (2 : Int32)), .unset, .unset] [(.ref va)])) _
      refine XS.iloadN X0.here hx rfl (hb hby d1_11) rfl ?_
      show Steps p.tables e below (s₁.setTop (mkF m 12 #[.val (.ref va), .val (.int (1 : Int32)), .val (.int (2 : Int32)), .unset, .unset] [(.int (1 : Int32)), (.ref va)])) _
      refine X0.laload hx (j := (1 : Int32)) (v := (.long x1)) (by rw [e0]; exact Ar5.1) (State.isArrayOf_alike hZ.alike Ar5.2.1) Ar5.2.2 hin5 hat5 (g := (mkF m 12 #[.val (.ref va), .val (.int (1 : Int32)), .val (.int (2 : Int32)), .unset, .unset] [(.int (1 : Int32)), (.ref va)])) rfl rfl (hb hby d1_12) _ ?_
      show Steps p.tables e below (s₁.setTop (mkF m 13 #[.val (.ref va), .val (.int (1 : Int32)), .val (.int (2 : Int32)), .unset, .unset] [(.long x1)])) _
      refine XS.lstoreN X0.here hx rfl (hb hby d1_13) rfl (l' := #[.val (.ref va), .val (.int (1 : Int32)), .val (.int (2 : Int32)), .val (.long x1), .second]) rfl ?_
      show Steps p.tables e below (s₁.setTop (mkF m 14 #[.val (.ref va), .val (.int (1 : Int32)), .val (.int (2 : Int32)), .val (.long x1), .second] [])) _
      refine XS.aloadN X0.here hx rfl (hb hby d1_14) rfl rfl ?_
      show Steps p.tables e below (s₁.setTop (mkF m 15 #[.val (.ref va), .val (.int (1 : Int32)), .val (.int (2 : Int32)), .val (.long x1), .second] [(.ref va)])) _
      refine XS.iloadN X0.here hx rfl (hb hby d1_15) rfl ?_
      show Steps p.tables e below (s₁.setTop (mkF m 16 #[.val (.ref va), .val (.int (1 : Int32)), .val (.int (2 : Int32)), .val (.long x1), .second] [(.int (1 : Int32)), (.ref va)])) _
      refine XS.aloadN X0.here hx rfl (hb hby d1_16) rfl rfl ?_
      show Steps p.tables e below (s₁.setTop (mkF m 17 #[.val (.ref va), .val (.int (1 : Int32)), .val (.int (2 : Int32)), .val (.long x1), .second] [(.ref va), (.int (1 : Int32)), (.ref va)])) _
      refine XS.iloadN X0.here hx rfl (hb hby d1_17) rfl ?_
      show Steps p.tables e below (s₁.setTop (mkF m 18 #[.val (.ref va), .val (.int (1 : Int32)), .val (.int (2 : Int32)), .val (.long x1), .second] [(.int (2 : Int32)), (.ref va), (.int (1 : Int32)), (.ref va)])) _
      refine X0.laload hx (j := (2 : Int32)) (v := (.long x2)) (by rw [e0]; exact Ar6.1) (State.isArrayOf_alike hZ.alike Ar6.2.1) Ar6.2.2 hin6 hat6 (g := (mkF m 18 #[.val (.ref va), .val (.int (1 : Int32)), .val (.int (2 : Int32)), .val (.long x1), .second] [(.int (2 : Int32)), (.ref va), (.int (1 : Int32)), (.ref va)])) rfl rfl (hb hby d1_18) _ ?_
      show Steps p.tables e below (s₁.setTop (mkF m 19 #[.val (.ref va), .val (.int (1 : Int32)), .val (.int (2 : Int32)), .val (.long x1), .second] [(.long x2), (.int (1 : Int32)), (.ref va)])) _
      refine st8 _ ?_
      show Steps p.tables e below (T8.setTop (mkF m 20 #[.val (.ref va), .val (.int (1 : Int32)), .val (.int (2 : Int32)), .val (.long x1), .second] [])) _
      refine XS.aloadN X8.here hx rfl (hb hby d1_20) rfl rfl ?_
      show Steps p.tables e below (T8.setTop (mkF m 21 #[.val (.ref va), .val (.int (1 : Int32)), .val (.int (2 : Int32)), .val (.long x1), .second] [(.ref va)])) _
      refine XS.iloadN X8.here hx rfl (hb hby d1_21) rfl ?_
      show Steps p.tables e below (T8.setTop (mkF m 22 #[.val (.ref va), .val (.int (1 : Int32)), .val (.int (2 : Int32)), .val (.long x1), .second] [(.int (2 : Int32)), (.ref va)])) _
      refine XS.lloadN X8.here hx rfl (hb hby d1_22) rfl ?_
      show Steps p.tables e below (T8.setTop (mkF m 23 #[.val (.ref va), .val (.int (1 : Int32)), .val (.int (2 : Int32)), .val (.long x1), .second] [(.long x1), (.int (2 : Int32)), (.ref va)])) _
      refine st10 _ ?_
      show Steps p.tables e below (T10.setTop (mkF m 24 #[.val (.ref va), .val (.int (1 : Int32)), .val (.int (2 : Int32)), .val (.long x1), .second] [])) _
      exact X10.returnOut hx Bd.returns (hb hby d1_24) hr
    ·
      show QCs12 Z va kb x0 x1 x2 x3 h0 n0 _ T10.heap _
      rw [e10]
      exact ⟨rfl, N10, K10, (by rw [own_mn, own_mx, if_pos hc4, if_pos hc4]; exact V10)⟩
  ·
    obtain ⟨fs, hr, hrun, hended, hW, hsame⟩ := X0.leave (v := none) (fun _ => rfl) (hlocks := BodyLoose.notSynchronized Bd)
    refine ⟨_, _, pre3 _ ?_, hrun, hended, _, _, rfl, ?_, ⟨_, rfl⟩, hW, hsame.mono (by decide) (by decide)⟩
    ·
      show Steps p.tables e below (s₁.setTop (mkF m 7 #[.val (.ref va), .val (.int (1 : Int32)), .val (.int (2 : Int32)), .unset, .unset] [(.int (lcmpW x1 x2))])) _
      refine XS.ifYes X0.here hx rfl (pc0 := 7) (pc' := 24) rfl (hb hby d1_7) rfl ((if0 _ _).trans (flt ((fun q => hc4 ((lw_gt _ _).mp q)) : ¬ ((0 : Int32) < (lcmpW x1 x2)))).2.2.2) (by decide) (by decide) ?_
      show Steps p.tables e below (s₁.setTop (mkF m 24 #[.val (.ref va), .val (.int (1 : Int32)), .val (.int (2 : Int32)), .unset, .unset] [])) _
      exact X0.returnOut hx Bd.returns (hb hby d1_24) hr
    ·
      show QCs12 Z va kb x0 x1 x2 x3 h0 n0 _ s₁.heap _
      rw [e0]
      exact ⟨rfl, N0, (Keep.refl h0 [va]), (by rw [own_mn, own_mx, if_neg hc4, if_neg hc4]; exact Va)⟩
theorem d2_0 : decode prog_25_method_1_code 0 = .ok (.aload_n 0, 1) := by decide +kernel
theorem d2_1 : decode prog_25_method_1_code 1 = .ok (.invokespecial 1, 3) := by decide +kernel
theorem d2_4 : decode prog_25_method_1_code 4 = .ok (.aload_n 0, 1) := by decide +kernel
theorem d2_5 : decode prog_25_method_1_code 5 = .ok (.iconst 4, 1) := by decide +kernel
theorem d2_6 : decode prog_25_method_1_code 6 = .ok (.anewarray 7, 3) := by decide +kernel
theorem d2_9 : decode prog_25_method_1_code 9 = .ok (.putfield 9, 3) := by decide +kernel
theorem d2_12 : decode prog_25_method_1_code 12 = .ok (.aload_n 0, 1) := by decide +kernel
theorem d2_13 : decode prog_25_method_1_code 13 = .ok (.iconst 4, 1) := by decide +kernel
theorem d2_14 : decode prog_25_method_1_code 14 = .ok (.newarray .int, 2) := by decide +kernel
theorem d2_16 : decode prog_25_method_1_code 16 = .ok (.putfield 15, 3) := by decide +kernel
theorem d2_19 : decode prog_25_method_1_code 19 = .ok (.return_, 1) := by decide +kernel
theorem pn_35 : plainName "com/example/causeline/causeline/core/CopyTable" = true := by first | (simp [plainName, overriddenIn]; done) | decide +kernel
theorem ef_rm2 (m : MethodId) (x0 : Addr) : entryFrame m #[(.ref x0)] 1 = mkF m 0 #[.val (.ref x0)] [] := by first | (simp [entryFrame, mkF, argsToLocals, Value.category]; done) | rfl
def Q2 (Z : State) (va : Addr) (h0 : Heap) (n0 : Nat) (v : Option Value) (h : Heap) (L : List Loc) : Prop := v = none ∧ Fr n0 L ∧ Keep h0 h [va]
set_option maxRecDepth 65536 in
set_option maxHeartbeats 40000000 in
theorem rm2 (l : Launch) (Z : State) (a0 : Array Value) (hw : ∀ d ∈ tables_1, d.before a0 Z = true) (ws : List Jvm.Cond) (va : Addr) (h0 : Heap) (n0 : Nat) (Z0 : n0 ≤ h0.size) (Ea : Exa Z h0 va "com/example/causeline/causeline/core/CopyTable") (Fb : Fld Z h0 va "com/example/causeline/causeline/core/CopyTable" "blocks" "[[Lcom/example/causeline/causeline/core/Waiting;" .null) (Fc : Fld Z h0 va "com/example/causeline/causeline/core/CopyTable" "counts" "[I" .null) (g_va : n0 ≤ va) :
    MetFree l (⟨"com/example/causeline/causeline/core/CopyTable", "<init>", "()V"⟩ : MethodName) (head1 (Jvm.Cond.code (⟨"com/example/causeline/causeline/core/CopyTable", "<init>", "()V"⟩ : MethodName) prog_25_method_1_code 1 none :: ws) ({ frames := 1, cells := 2, slots := 8, locals := 12 } : Room)) (fun a U => a = #[(.ref va)] ∧ Z.Warmed39 U.vm ∧ U.heap = h0) (fun _ _ _ _ _ => True) (fun _ U o U' => ∃ v L, o = .returned v ∧ Q2 Z va h0 n0 v U'.heap L ∧ FrameEnd U o U' L ({ frames := 1, cells := 2, slots := 8, locals := 12 } : Room).cells ({ frames := 1, cells := 2, slots := 8, locals := 12 } : Room).slots) := by
  refine MetFree.of_bodySF (plainFor_of_name pn_35) hisR ?_
  intro p e s m args below meth c s₁ Bd hml0 hP hK
  obtain ⟨rfl, hZ, hh⟩ := hP
  have hx := Bd.exec
  have hby := Bd.bytes
  have hml : c.maxLocals = 1 := hml0
  have hown : s.vm.findClass "com/example/causeline/causeline/core/CopyTable" = some m.cls := findClass_of_methodNamed Bd.named
  have hnm := (name_of_methodNamed Bd.named Bd.method).1
  have X0 : Stand p l e ({ frames := 1, cells := 2, slots := 8, locals := 12 } : Room) s m #[(.ref va)] below meth c s₁ [] 0 0 := Stand.of_body Bd
  have e0 : s₁.heap = h0 := by rw [← hh, Bd.state]; rfl
  have N0 := Fr.nil n0
  have pre0 : ∀ t, Steps p.tables e below (s₁.setTop (mkF m 0 #[.val (.ref va)] [])) t → Steps p.tables e below (s₁.setTop (entryFrame m #[(.ref va)] 1)) t := fun t k => castTop (ef_rm2 m va) k
  obtain ⟨T1, X1, e1, st1⟩ := initO X0 hx hZ hown (hw _ (List.mem_of_getElem? (i := 14) rfl)) (hw _ (List.mem_of_getElem? (i := 15) rfl)) (hw _ (List.mem_of_getElem? (i := 16) rfl)) e0 (g := (mkF m 1 #[.val (.ref va)] [(.ref va)])) rfl (by rw [hml]; rfl) rfl (hb hby d2_1) (by decide) (W := 0) (by show 2 * 0 + _ ≤ _; exact Nat.le_of_eq rfl) (by decide)
  obtain ⟨T2, h2, k2, X2, e2, E2, A2, -, O2, st2⟩ := newRA X1 hx hZ (C := "[Lcom/example/causeline/causeline/core/Waiting;") (ty := (.object "com/example/causeline/causeline/core/Waiting")) hown rfl (hw _ (List.mem_of_getElem? (i := 17) rfl)) (hw _ (List.mem_of_getElem? (i := 18) rfl)) e1 (g := (mkF m 6 #[.val (.ref va)] [(.int (4 : Int32)), (.ref va)])) rfl (hb hby d2_6) rfl (by decide) (cap := 4) (by decide) (by decide) (by decide) (by decide) (ad := "[[Lcom/example/causeline/causeline/core/Waiting;") rfl
  obtain ⟨b2, g2⟩ : ∃ z, z = h0.size := ⟨_, rfl⟩
  rw [← g2] at A2 st2
  have ne3 : va ≠ b2 := Nat.ne_of_lt (Nat.lt_of_lt_of_le Ea.lt (Nat.le_of_eq g2.symm))
  have c4 : Exa Z h2 va "com/example/causeline/causeline/core/CopyTable" := Ea.ext E2
  have c5 : Fld Z h2 va "com/example/causeline/causeline/core/CopyTable" "blocks" "[[Lcom/example/causeline/causeline/core/Waiting;" .null := Fb.ext E2
  have c6 : Fld Z h2 va "com/example/causeline/causeline/core/CopyTable" "counts" "[I" .null := Fc.ext E2
  have g_b2 : n0 ≤ b2 := Nat.le_trans Z0 (Nat.le_of_eq g2.symm)
  have sz_b2 : h0.size ≤ b2 := Nat.le_trans (Keep.refl h0 [va]).1 (Nat.le_of_eq g2.symm)
  have Z2 : n0 ≤ h2.size := Nat.le_trans Z0 E2.1
  have K2 : Keep h0 h2 [va] := (Keep.refl h0 [va]).ext E2
  have V2 : Arv Z h2 b2 k2 (.array (.object "com/example/causeline/causeline/core/Waiting")) (4 : Int32) [.null, .null, .null, .null] .null := (Arv.new A2 (by decide)).pad (pad_rep [] .null 4)
  obtain ⟨T7, h7, X7, e7, W7, st7⟩ := putF X2 hx hZ hown (host := "") (Or.inl (hw _ (List.mem_of_getElem? (i := 19) rfl))) Via.refl e2 c5 c4 (Or.inl (hw _ (List.mem_of_getElem? (i := 20) rfl))) (hw _ (List.mem_of_getElem? (i := 9) rfl)) (ty := (.array (.array (.object "com/example/causeline/causeline/core/Waiting")))) (by decide) rfl rfl (g := (mkF m 9 #[.val (.ref va)] [(.ref b2), (.ref va)])) rfl rfl (hb hby d2_9)
  have Fw7 : Fld Z h7 va "com/example/causeline/causeline/core/CopyTable" "blocks" "[[Lcom/example/causeline/causeline/core/Waiting;" (.ref b2) := c5.same W7
  have c8 : Exa Z h7 va "com/example/causeline/causeline/core/CopyTable" := c4.wr W7
  have c9 : Fld Z h7 va "com/example/causeline/causeline/core/CopyTable" "counts" "[I" .null := c6.other W7 (Or.inr (slot_ne (Or.inl (hw _ (List.mem_of_getElem? (i := 23) rfl))) (Or.inl (hw _ (List.mem_of_getElem? (i := 20) rfl))) (by decide) (t := (.array .int)) (t' := (.array (.array (.object "com/example/causeline/causeline/core/Waiting")))) (by decide) (by decide)))
  have c10 : Arv Z h7 b2 k2 (.array (.object "com/example/causeline/causeline/core/Waiting")) (4 : Int32) [.null, .null, .null, .null] .null := V2.other W7 (Ne.symm ne3)
  have Z7 : n0 ≤ h7.size := Nat.le_trans Z2 (Keep.of_wr W7).1
  have N7 := Fr.snoc X7 N0 g_va
  have K7 : Keep h0 h7 [va] := K2.wr W7 (Or.inl (List.mem_of_getElem? (i := 0) rfl))
  obtain ⟨T11, h11, k11, X11, e11, E11, A11, st11⟩ := newP X7 hx hZ (hw _ (List.mem_of_getElem? (i := 21) rfl)) e7 (g := (mkF m 14 #[.val (.ref va)] [(.int (4 : Int32)), (.ref va)])) rfl (hb hby d2_14) rfl (by decide) (cap := 4) (by decide) (by decide) (by decide) (by decide)
  obtain ⟨b11, g11⟩ : ∃ z, z = h7.size := ⟨_, rfl⟩
  rw [← g11] at A11 st11
  have ne12 : va ≠ b11 := Nat.ne_of_lt (Nat.lt_of_lt_of_le c8.lt (Nat.le_of_eq g11.symm))
  have ne13 : b2 ≠ b11 := Nat.ne_of_lt (Nat.lt_of_lt_of_le c10.lt (Nat.le_of_eq g11.symm))
  have c14 : Exa Z h11 va "com/example/causeline/causeline/core/CopyTable" := c8.ext E11
  have c15 : Fld Z h11 va "com/example/causeline/causeline/core/CopyTable" "blocks" "[[Lcom/example/causeline/causeline/core/Waiting;" (.ref b2) := Fw7.ext E11
  have c16 : Fld Z h11 va "com/example/causeline/causeline/core/CopyTable" "counts" "[I" .null := c9.ext E11
  have c17 : Arv Z h11 b2 k2 (.array (.object "com/example/causeline/causeline/core/Waiting")) (4 : Int32) [.null, .null, .null, .null] .null := c10.ext E11
  have g_b11 : n0 ≤ b11 := Nat.le_trans Z7 (Nat.le_of_eq g11.symm)
  have sz_b11 : h0.size ≤ b11 := Nat.le_trans K7.1 (Nat.le_of_eq g11.symm)
  have Z11 : n0 ≤ h11.size := Nat.le_trans Z7 E11.1
  have K11 : Keep h0 h11 [va] := K7.ext E11
  have V11 : Arv Z h11 b11 k11 .int (4 : Int32) [(.int (0 : Int32)), (.int (0 : Int32)), (.int (0 : Int32)), (.int (0 : Int32))] (.int (0 : Int32)) := (Arv.new A11 (by decide)).pad (pad_rep [] (.int (0 : Int32)) 4)
  obtain ⟨T18, h18, X18, e18, W18, st18⟩ := putF X11 hx hZ hown (host := "") (Or.inl (hw _ (List.mem_of_getElem? (i := 22) rfl))) Via.refl e11 c16 c14 (Or.inl (hw _ (List.mem_of_getElem? (i := 23) rfl))) (hw _ (List.mem_of_getElem? (i := 9) rfl)) (ty := (.array .int)) (by decide) rfl rfl (g := (mkF m 16 #[.val (.ref va)] [(.ref b11), (.ref va)])) rfl rfl (hb hby d2_16)
  have Fw18 : Fld Z h18 va "com/example/causeline/causeline/core/CopyTable" "counts" "[I" (.ref b11) := c16.same W18
  have c19 : Exa Z h18 va "com/example/causeline/causeline/core/CopyTable" := c14.wr W18
  have c20 : Fld Z h18 va "com/example/causeline/causeline/core/CopyTable" "blocks" "[[Lcom/example/causeline/causeline/core/Waiting;" (.ref b2) := c15.other W18 (Or.inr (slot_ne (Or.inl (hw _ (List.mem_of_getElem? (i := 20) rfl))) (Or.inl (hw _ (List.mem_of_getElem? (i := 23) rfl))) (by decide) (t := (.array (.array (.object "com/example/causeline/causeline/core/Waiting")))) (t' := (.array .int)) (by decide) (by decide)))
  have c21 : Arv Z h18 b2 k2 (.array (.object "com/example/causeline/causeline/core/Waiting")) (4 : Int32) [.null, .null, .null, .null] .null := c17.other W18 (Ne.symm ne3)
  have c22 : Arv Z h18 b11 k11 .int (4 : Int32) [(.int (0 : Int32)), (.int (0 : Int32)), (.int (0 : Int32)), (.int (0 : Int32))] (.int (0 : Int32)) := V11.other W18 (Ne.symm ne12)
  have Z18 : n0 ≤ h18.size := Nat.le_trans Z11 (Keep.of_wr W18).1
  have N18 := Fr.snoc X18 N7 g_va
  have K18 : Keep h0 h18 [va] := K11.wr W18 (Or.inl (List.mem_of_getElem? (i := 0) rfl))
  obtain ⟨fs, hr, hrun, hended, hW, hsame⟩ := X18.leave (v := none) (fun _ => rfl) (hlocks := BodyLoose.notSynchronized Bd)
  refine ⟨_, _, pre0 _ ?_, hrun, hended, _, _, rfl, ?_, ⟨_, rfl⟩, hW, hsame.mono (by decide) (by decide)⟩
  ·
    show Steps p.tables e below (s₁.setTop (mkF m 0 #[.val (.ref va)] [])) _
    refine XS.aloadN X0.here hx rfl (hb hby d2_0) rfl rfl ?_
    show Steps p.tables e below (s₁.setTop (mkF m 1 #[.val (.ref va)] [(.ref va)])) _
    refine st1 _ ?_
    show Steps p.tables e below (T1.setTop (mkF m 4 #[.val (.ref va)] [])) _
    refine XS.aloadN X1.here hx rfl (hb hby d2_4) rfl rfl ?_
    show Steps p.tables e below (T1.setTop (mkF m 5 #[.val (.ref va)] [(.ref va)])) _
    refine XS.iconst X1.here hx rfl (hb hby d2_5) ?_
    show Steps p.tables e below (T1.setTop (mkF m 6 #[.val (.ref va)] [(.int (4 : Int32)), (.ref va)])) _
    refine st2 _ ?_
    show Steps p.tables e below (T2.setTop (mkF m 9 #[.val (.ref va)] [(.ref b2), (.ref va)])) _
    refine st7 _ ?_
    show Steps p.tables e below (T7.setTop (mkF m 12 #[.val (.ref va)] [])) _
    refine XS.aloadN X7.here hx rfl (hb hby d2_12) rfl rfl ?_
    show Steps p.tables e below (T7.setTop (mkF m 13 #[.val (.ref va)] [(.ref va)])) _
    refine XS.iconst X7.here hx rfl (hb hby d2_13) ?_
    show Steps p.tables e below (T7.setTop (mkF m 14 #[.val (.ref va)] [(.int (4 : Int32)), (.ref va)])) _
    refine st11 _ ?_
    show Steps p.tables e below (T11.setTop (mkF m 16 #[.val (.ref va)] [(.ref b11), (.ref va)])) _
    refine st18 _ ?_
    show Steps p.tables e below (T18.setTop (mkF m 19 #[.val (.ref va)] [])) _
    exact X18.returnOut hx Bd.returns (hb hby d2_19) hr
  ·
    show Q2 Z va h0 n0 _ T18.heap _
    rw [e18]
    exact ⟨rfl, N18, K18⟩
theorem d4_0 : decode prog_36_method_1_code 0 = .ok (.aload_n 0, 1) := by decide +kernel
theorem d4_1 : decode prog_36_method_1_code 1 = .ok (.invokespecial 1, 3) := by decide +kernel
theorem d4_4 : decode prog_36_method_1_code 4 = .ok (.aload_n 0, 1) := by decide +kernel
theorem d4_5 : decode prog_36_method_1_code 5 = .ok (.getstatic 7, 3) := by decide +kernel
theorem d4_8 : decode prog_36_method_1_code 8 = .ok (.putfield 13, 3) := by decide +kernel
theorem d4_11 : decode prog_36_method_1_code 11 = .ok (.aload_n 0, 1) := by decide +kernel
theorem d4_12 : decode prog_36_method_1_code 12 = .ok (.getstatic 7, 3) := by decide +kernel
theorem d4_15 : decode prog_36_method_1_code 15 = .ok (.putfield 16, 3) := by decide +kernel
theorem d4_18 : decode prog_36_method_1_code 18 = .ok (.aload_n 0, 1) := by decide +kernel
theorem d4_19 : decode prog_36_method_1_code 19 = .ok (.aload_n 1, 1) := by decide +kernel
theorem d4_20 : decode prog_36_method_1_code 20 = .ok (.putfield 19, 3) := by decide +kernel
theorem d4_23 : decode prog_36_method_1_code 23 = .ok (.return_, 1) := by decide +kernel
theorem pn_48 : plainName "com/example/causeline/causeline/core/Filing" = true := by first | (simp [plainName, overriddenIn]; done) | decide +kernel
theorem ef_rm4 (m : MethodId) (x0 : Addr) (x1 : Addr) : entryFrame m #[(.ref x0), (.ref x1)] 2 = mkF m 0 #[.val (.ref x0), .val (.ref x1)] [] := by first | (simp [entryFrame, mkF, argsToLocals, Value.category]; done) | rfl
def Q4 (Z : State) (va : Addr) (vt : Addr) (vN : Addr) (h0 : Heap) (n0 : Nat) (v : Option Value) (h : Heap) (L : List Loc) : Prop := v = none ∧ Fr n0 L ∧ Keep h0 h [va] ∧ Exa Z h va "com/example/causeline/causeline/core/Filing" ∧ Fld Z h va "com/example/causeline/causeline/core/Filing" "numbers" "[J" (.ref vN) ∧ Fld Z h va "com/example/causeline/causeline/core/Filing" "orders" "[J" (.ref vN) ∧ Fld Z h va "com/example/causeline/causeline/core/Filing" "first" "I" (.int (0 : Int32)) ∧ Fld Z h va "com/example/causeline/causeline/core/Filing" "end" "I" (.int (0 : Int32))
set_option maxRecDepth 65536 in
set_option maxHeartbeats 40000000 in
theorem rm4 (l : Launch) (Z : State) (a0 : Array Value) (hw : ∀ d ∈ tables_1, d.before a0 Z = true) (ws : List Jvm.Cond) (va : Addr) (vt : Addr) (vN : Addr) (h0 : Heap) (n0 : Nat) (Z0 : n0 ≤ h0.size) (Ea : Exa Z h0 va "com/example/causeline/causeline/core/Filing") (Fn : Fld Z h0 va "com/example/causeline/causeline/core/Filing" "numbers" "[J" .null) (Fo : Fld Z h0 va "com/example/causeline/causeline/core/Filing" "orders" "[J" .null) (Ft : Fld Z h0 va "com/example/causeline/causeline/core/Filing" "table" "Lcom/example/causeline/causeline/core/CopyTable;" .null) (Ff : Fld Z h0 va "com/example/causeline/causeline/core/Filing" "first" "I" (.int (0 : Int32))) (Fe : Fld Z h0 va "com/example/causeline/causeline/core/Filing" "end" "I" (.int (0 : Int32))) (S_N : Sta Z h0 "com/example/causeline/causeline/core/Filing" "NOTHING" "[J" (.ref vN)) (g_va : n0 ≤ va) :
    MetFree l (⟨"com/example/causeline/causeline/core/Filing", "<init>", "(Lcom/example/causeline/causeline/core/CopyTable;)V"⟩ : MethodName) (head1 (Jvm.Cond.code (⟨"com/example/causeline/causeline/core/Filing", "<init>", "(Lcom/example/causeline/causeline/core/CopyTable;)V"⟩ : MethodName) prog_36_method_1_code 2 none :: ws) ({ frames := 1, cells := 0, slots := 0, locals := 12 } : Room)) (fun a U => a = #[(.ref va), (.ref vt)] ∧ Z.Warmed39 U.vm ∧ U.heap = h0) (fun _ _ _ _ _ => True) (fun _ U o U' => ∃ v L, o = .returned v ∧ Q4 Z va vt vN h0 n0 v U'.heap L ∧ FrameEnd U o U' L ({ frames := 1, cells := 0, slots := 0, locals := 12 } : Room).cells ({ frames := 1, cells := 0, slots := 0, locals := 12 } : Room).slots) := by
  refine MetFree.of_bodySF (plainFor_of_name pn_48) hisR ?_
  intro p e s m args below meth c s₁ Bd hml0 hP hK
  obtain ⟨rfl, hZ, hh⟩ := hP
  have hx := Bd.exec
  have hby := Bd.bytes
  have hml : c.maxLocals = 2 := hml0
  have hown : s.vm.findClass "com/example/causeline/causeline/core/Filing" = some m.cls := findClass_of_methodNamed Bd.named
  have hnm := (name_of_methodNamed Bd.named Bd.method).1
  have X0 : Stand p l e ({ frames := 1, cells := 0, slots := 0, locals := 12 } : Room) s m #[(.ref va), (.ref vt)] below meth c s₁ [] 0 0 := Stand.of_body Bd
  have e0 : s₁.heap = h0 := by rw [← hh, Bd.state]; rfl
  have N0 := Fr.nil n0
  have pre0 : ∀ t, Steps p.tables e below (s₁.setTop (mkF m 0 #[.val (.ref va), .val (.ref vt)] [])) t → Steps p.tables e below (s₁.setTop (entryFrame m #[(.ref va), (.ref vt)] 2)) t := fun t k => castTop (ef_rm4 m va vt) k
  obtain ⟨T1, X1, e1, st1⟩ := initO X0 hx hZ hown (hw _ (List.mem_of_getElem? (i := 27) rfl)) (hw _ (List.mem_of_getElem? (i := 15) rfl)) (hw _ (List.mem_of_getElem? (i := 16) rfl)) e0 (g := (mkF m 1 #[.val (.ref va), .val (.ref vt)] [(.ref va)])) rfl (by rw [hml]; rfl) rfl (hb hby d4_1) (by decide) (W := 0) (by show 2 * 0 + _ ≤ _; exact Nat.le_of_eq rfl) (by decide)
  obtain ⟨T2, X2, e2, st2⟩ := getS2 X1 hx hZ hown (host := "") (Or.inl (hw _ (List.mem_of_getElem? (i := 28) rfl))) Via.refl e1 S_N (g := (mkF m 5 #[.val (.ref va), .val (.ref vt)] [(.ref va)])) rfl (hb hby d4_5)
  obtain ⟨T3, h3, X3, e3, W3, st3⟩ := putF X2 hx hZ hown (host := "") (Or.inl (hw _ (List.mem_of_getElem? (i := 30) rfl))) Via.refl e2 Fn Ea (Or.inl (hw _ (List.mem_of_getElem? (i := 31) rfl))) (hw _ (List.mem_of_getElem? (i := 6) rfl)) (ty := (.array .long)) (by decide) rfl rfl (g := (mkF m 8 #[.val (.ref va), .val (.ref vt)] [(.ref vN), (.ref va)])) rfl rfl (hb hby d4_8)
  have Fw3 : Fld Z h3 va "com/example/causeline/causeline/core/Filing" "numbers" "[J" (.ref vN) := Fn.same W3
  have c4 : Exa Z h3 va "com/example/causeline/causeline/core/Filing" := Ea.wr W3
  have c5 : Fld Z h3 va "com/example/causeline/causeline/core/Filing" "orders" "[J" .null := Fo.other W3 (Or.inr (slot_ne (Or.inl (hw _ (List.mem_of_getElem? (i := 33) rfl))) (Or.inl (hw _ (List.mem_of_getElem? (i := 31) rfl))) (by decide) (t := (.array .long)) (t' := (.array .long)) (by decide) (by decide)))
  have c6 : Fld Z h3 va "com/example/causeline/causeline/core/Filing" "table" "Lcom/example/causeline/causeline/core/CopyTable;" .null := Ft.other W3 (Or.inr (slot_ne (Or.inr (hw _ (List.mem_of_getElem? (i := 35) rfl))) (Or.inl (hw _ (List.mem_of_getElem? (i := 31) rfl))) (by decide) (t := (.object "com/example/causeline/causeline/core/CopyTable")) (t' := (.array .long)) (by decide) (by decide)))
  have c7 : Fld Z h3 va "com/example/causeline/causeline/core/Filing" "first" "I" (.int (0 : Int32)) := Ff.other W3 (Or.inr (slot_ne (Or.inl (hw _ (List.mem_of_getElem? (i := 73) rfl))) (Or.inl (hw _ (List.mem_of_getElem? (i := 31) rfl))) (by decide) (t := .int) (t' := (.array .long)) (by decide) (by decide)))
  have c8 : Fld Z h3 va "com/example/causeline/causeline/core/Filing" "end" "I" (.int (0 : Int32)) := Fe.other W3 (Or.inr (slot_ne (Or.inl (hw _ (List.mem_of_getElem? (i := 67) rfl))) (Or.inl (hw _ (List.mem_of_getElem? (i := 31) rfl))) (by decide) (t := .int) (t' := (.array .long)) (by decide) (by decide)))
  have c9 : Sta Z h3 "com/example/causeline/causeline/core/Filing" "NOTHING" "[J" (.ref vN) := S_N.wr W3
  have Z3 : n0 ≤ h3.size := Nat.le_trans Z0 (Keep.of_wr W3).1
  have N3 := Fr.snoc X3 N0 g_va
  have K3 : Keep h0 h3 [va] := (Keep.refl h0 [va]).wr W3 (Or.inl (List.mem_of_getElem? (i := 0) rfl))
  obtain ⟨T10, X10, e10, st10⟩ := getS2 X3 hx hZ hown (host := "") (Or.inl (hw _ (List.mem_of_getElem? (i := 28) rfl))) Via.refl e3 c9 (g := (mkF m 12 #[.val (.ref va), .val (.ref vt)] [(.ref va)])) rfl (hb hby d4_12)
  obtain ⟨T11, h11, X11, e11, W11, st11⟩ := putF X10 hx hZ hown (host := "") (Or.inl (hw _ (List.mem_of_getElem? (i := 32) rfl))) Via.refl e10 c5 c4 (Or.inl (hw _ (List.mem_of_getElem? (i := 33) rfl))) (hw _ (List.mem_of_getElem? (i := 6) rfl)) (ty := (.array .long)) (by decide) rfl rfl (g := (mkF m 15 #[.val (.ref va), .val (.ref vt)] [(.ref vN), (.ref va)])) rfl rfl (hb hby d4_15)
  have Fw11 : Fld Z h11 va "com/example/causeline/causeline/core/Filing" "orders" "[J" (.ref vN) := c5.same W11
  have c12 : Exa Z h11 va "com/example/causeline/causeline/core/Filing" := c4.wr W11
  have c13 : Fld Z h11 va "com/example/causeline/causeline/core/Filing" "numbers" "[J" (.ref vN) := Fw3.other W11 (Or.inr (slot_ne (Or.inl (hw _ (List.mem_of_getElem? (i := 31) rfl))) (Or.inl (hw _ (List.mem_of_getElem? (i := 33) rfl))) (by decide) (t := (.array .long)) (t' := (.array .long)) (by decide) (by decide)))
  have c14 : Fld Z h11 va "com/example/causeline/causeline/core/Filing" "table" "Lcom/example/causeline/causeline/core/CopyTable;" .null := c6.other W11 (Or.inr (slot_ne (Or.inr (hw _ (List.mem_of_getElem? (i := 35) rfl))) (Or.inl (hw _ (List.mem_of_getElem? (i := 33) rfl))) (by decide) (t := (.object "com/example/causeline/causeline/core/CopyTable")) (t' := (.array .long)) (by decide) (by decide)))
  have c15 : Fld Z h11 va "com/example/causeline/causeline/core/Filing" "first" "I" (.int (0 : Int32)) := c7.other W11 (Or.inr (slot_ne (Or.inl (hw _ (List.mem_of_getElem? (i := 73) rfl))) (Or.inl (hw _ (List.mem_of_getElem? (i := 33) rfl))) (by decide) (t := .int) (t' := (.array .long)) (by decide) (by decide)))
  have c16 : Fld Z h11 va "com/example/causeline/causeline/core/Filing" "end" "I" (.int (0 : Int32)) := c8.other W11 (Or.inr (slot_ne (Or.inl (hw _ (List.mem_of_getElem? (i := 67) rfl))) (Or.inl (hw _ (List.mem_of_getElem? (i := 33) rfl))) (by decide) (t := .int) (t' := (.array .long)) (by decide) (by decide)))
  have c17 : Sta Z h11 "com/example/causeline/causeline/core/Filing" "NOTHING" "[J" (.ref vN) := c9.wr W11
  have Z11 : n0 ≤ h11.size := Nat.le_trans Z3 (Keep.of_wr W11).1
  have N11 := Fr.snoc X11 N3 g_va
  have K11 : Keep h0 h11 [va] := K3.wr W11 (Or.inl (List.mem_of_getElem? (i := 0) rfl))
  obtain ⟨T18, h18, X18, e18, W18, st18⟩ := putF X11 hx hZ hown (host := "") (Or.inl (hw _ (List.mem_of_getElem? (i := 34) rfl))) Via.refl e11 c14 c12 (Or.inr ⟨(hw _ (List.mem_of_getElem? (i := 35) rfl)), rfl, hnm⟩) (hw _ (List.mem_of_getElem? (i := 6) rfl)) (ty := (.object "com/example/causeline/causeline/core/CopyTable")) (by decide) rfl rfl (g := (mkF m 20 #[.val (.ref va), .val (.ref vt)] [(.ref vt), (.ref va)])) rfl rfl (hb hby d4_20)
  have Fw18 : Fld Z h18 va "com/example/causeline/causeline/core/Filing" "table" "Lcom/example/causeline/causeline/core/CopyTable;" (.ref vt) := c14.same W18
  have c19 : Exa Z h18 va "com/example/causeline/causeline/core/Filing" := c12.wr W18
  have c20 : Fld Z h18 va "com/example/causeline/causeline/core/Filing" "numbers" "[J" (.ref vN) := c13.other W18 (Or.inr (slot_ne (Or.inl (hw _ (List.mem_of_getElem? (i := 31) rfl))) (Or.inr (hw _ (List.mem_of_getElem? (i := 35) rfl))) (by decide) (t := (.array .long)) (t' := (.object "com/example/causeline/causeline/core/CopyTable")) (by decide) (by decide)))
  have c21 : Fld Z h18 va "com/example/causeline/causeline/core/Filing" "orders" "[J" (.ref vN) := Fw11.other W18 (Or.inr (slot_ne (Or.inl (hw _ (List.mem_of_getElem? (i := 33) rfl))) (Or.inr (hw _ (List.mem_of_getElem? (i := 35) rfl))) (by decide) (t := (.array .long)) (t' := (.object "com/example/causeline/causeline/core/CopyTable")) (by decide) (by decide)))
  have c22 : Fld Z h18 va "com/example/causeline/causeline/core/Filing" "first" "I" (.int (0 : Int32)) := c15.other W18 (Or.inr (slot_ne (Or.inl (hw _ (List.mem_of_getElem? (i := 73) rfl))) (Or.inr (hw _ (List.mem_of_getElem? (i := 35) rfl))) (by decide) (t := .int) (t' := (.object "com/example/causeline/causeline/core/CopyTable")) (by decide) (by decide)))
  have c23 : Fld Z h18 va "com/example/causeline/causeline/core/Filing" "end" "I" (.int (0 : Int32)) := c16.other W18 (Or.inr (slot_ne (Or.inl (hw _ (List.mem_of_getElem? (i := 67) rfl))) (Or.inr (hw _ (List.mem_of_getElem? (i := 35) rfl))) (by decide) (t := .int) (t' := (.object "com/example/causeline/causeline/core/CopyTable")) (by decide) (by decide)))
  have c24 : Sta Z h18 "com/example/causeline/causeline/core/Filing" "NOTHING" "[J" (.ref vN) := c17.wr W18
  have Z18 : n0 ≤ h18.size := Nat.le_trans Z11 (Keep.of_wr W18).1
  have N18 := Fr.snoc X18 N11 g_va
  have K18 : Keep h0 h18 [va] := K11.wr W18 (Or.inl (List.mem_of_getElem? (i := 0) rfl))
  obtain ⟨fs, hr, hrun, hended, hW, hsame⟩ := X18.leave (v := none) (fun _ => rfl) (hlocks := BodyLoose.notSynchronized Bd)
  refine ⟨_, _, pre0 _ ?_, hrun, hended, _, _, rfl, ?_, ⟨_, rfl⟩, hW, hsame.mono (by decide) (by decide)⟩
  ·
    show Steps p.tables e below (s₁.setTop (mkF m 0 #[.val (.ref va), .val (.ref vt)] [])) _
    refine XS.aloadN X0.here hx rfl (hb hby d4_0) rfl rfl ?_
    show Steps p.tables e below (s₁.setTop (mkF m 1 #[.val (.ref va), .val (.ref vt)] [(.ref va)])) _
    refine st1 _ ?_
    show Steps p.tables e below (T1.setTop (mkF m 4 #[.val (.ref va), .val (.ref vt)] [])) _
    refine XS.aloadN X1.here hx rfl (hb hby d4_4) rfl rfl ?_
    show Steps p.tables e below (T1.setTop (mkF m 5 #[.val (.ref va), .val (.ref vt)] [(.ref va)])) _
    refine st2 _ ?_
    show Steps p.tables e below (T2.setTop (mkF m 8 #[.val (.ref va), .val (.ref vt)] [(.ref vN), (.ref va)])) _
    refine st3 _ ?_
    show Steps p.tables e below (T3.setTop (mkF m 11 #[.val (.ref va), .val (.ref vt)] [])) _
    refine XS.aloadN X3.here hx rfl (hb hby d4_11) rfl rfl ?_
    show Steps p.tables e below (T3.setTop (mkF m 12 #[.val (.ref va), .val (.ref vt)] [(.ref va)])) _
    refine st10 _ ?_
    show Steps p.tables e below (T10.setTop (mkF m 15 #[.val (.ref va), .val (.ref vt)] [(.ref vN), (.ref va)])) _
    refine st11 _ ?_
    show Steps p.tables e below (T11.setTop (mkF m 18 #[.val (.ref va), .val (.ref vt)] [])) _
    refine XS.aloadN X11.here hx rfl (hb hby d4_18) rfl rfl ?_
    show Steps p.tables e below (T11.setTop (mkF m 19 #[.val (.ref va), .val (.ref vt)] [(.ref va)])) _
    refine XS.aloadN X11.here hx rfl (hb hby d4_19) rfl rfl ?_
    show Steps p.tables e below (T11.setTop (mkF m 20 #[.val (.ref va), .val (.ref vt)] [(.ref vt), (.ref va)])) _
    refine st18 _ ?_
    show Steps p.tables e below (T18.setTop (mkF m 23 #[.val (.ref va), .val (.ref vt)] [])) _
    exact X18.returnOut hx Bd.returns (hb hby d4_23) hr
  ·
    show Q4 Z va vt vN h0 n0 _ T18.heap _
    rw [e18]
    exact ⟨rfl, N18, K18, c19, c20, c21, c22, c23⟩
theorem d5_0 : decode prog_77_method_1_code 0 = .ok (.aload_n 0, 1) := by decide +kernel
theorem d5_1 : decode prog_77_method_1_code 1 = .ok (.invokespecial 1, 3) := by decide +kernel
theorem d5_4 : decode prog_77_method_1_code 4 = .ok (.aload_n 0, 1) := by decide +kernel
theorem d5_5 : decode prog_77_method_1_code 5 = .ok (.ldc2_w 9, 3) := by decide +kernel
theorem d5_8 : decode prog_77_method_1_code 8 = .ok (.putfield 11, 3) := by decide +kernel
theorem d5_11 : decode prog_77_method_1_code 11 = .ok (.aload_n 0, 1) := by decide +kernel
theorem d5_12 : decode prog_77_method_1_code 12 = .ok (.aload_n 1, 1) := by decide +kernel
theorem d5_13 : decode prog_77_method_1_code 13 = .ok (.putfield 17, 3) := by decide +kernel
theorem d5_16 : decode prog_77_method_1_code 16 = .ok (.aload_n 0, 1) := by decide +kernel
theorem d5_17 : decode prog_77_method_1_code 17 = .ok (.lload_n 2, 1) := by decide +kernel
theorem d5_18 : decode prog_77_method_1_code 18 = .ok (.putfield 21, 3) := by decide +kernel
theorem d5_21 : decode prog_77_method_1_code 21 = .ok (.aload_n 0, 1) := by decide +kernel
theorem d5_22 : decode prog_77_method_1_code 22 = .ok (.lload 4, 2) := by decide +kernel
theorem d5_24 : decode prog_77_method_1_code 24 = .ok (.putfield 24, 3) := by decide +kernel
theorem d5_27 : decode prog_77_method_1_code 27 = .ok (.aload_n 0, 1) := by decide +kernel
theorem d5_28 : decode prog_77_method_1_code 28 = .ok (.lload 6, 2) := by decide +kernel
theorem d5_30 : decode prog_77_method_1_code 30 = .ok (.putfield 27, 3) := by decide +kernel
theorem d5_33 : decode prog_77_method_1_code 33 = .ok (.aload_n 0, 1) := by decide +kernel
theorem d5_34 : decode prog_77_method_1_code 34 = .ok (.lload 8, 2) := by decide +kernel
theorem d5_36 : decode prog_77_method_1_code 36 = .ok (.putfield 30, 3) := by decide +kernel
theorem d5_39 : decode prog_77_method_1_code 39 = .ok (.aload_n 0, 1) := by decide +kernel
theorem d5_40 : decode prog_77_method_1_code 40 = .ok (.lload 6, 2) := by decide +kernel
theorem d5_42 : decode prog_77_method_1_code 42 = .ok (.putfield 33, 3) := by decide +kernel
theorem d5_45 : decode prog_77_method_1_code 45 = .ok (.aload_n 0, 1) := by decide +kernel
theorem d5_46 : decode prog_77_method_1_code 46 = .ok (.iload 10, 2) := by decide +kernel
theorem d5_48 : decode prog_77_method_1_code 48 = .ok (.putfield 36, 3) := by decide +kernel
theorem d5_51 : decode prog_77_method_1_code 51 = .ok (.return_, 1) := by decide +kernel
theorem pn_76 : plainName "com/example/causeline/causeline/core/Waiting" = true := by first | (simp [plainName, overriddenIn]; done) | decide +kernel
theorem ef_rm5 (m : MethodId) (x0 : Addr) (x2 : Int64) (x3 : Int64) (x4 : Int64) (x5 : Int64) (x6 : Int32) : entryFrame m #[(.ref x0), .null, (.long x2), (.long x3), (.long x4), (.long x5), (.int x6)] 11 = mkF m 0 #[.val (.ref x0), .val .null, .val (.long x2), .second, .val (.long x3), .second, .val (.long x4), .second, .val (.long x5), .second, .val (.int x6)] [] := by first | (simp [entryFrame, mkF, argsToLocals, Value.category]; done) | rfl
def Q5 (Z : State) (va : Addr) (q1 : Int64) (q2 : Int64) (q3 : Int64) (q4 : Int64) (vi : Int32) (h0 : Heap) (n0 : Nat) (v : Option Value) (h : Heap) (L : List Loc) : Prop := v = none ∧ Fr n0 L ∧ Keep h0 h [va] ∧ Fld Z h va "com/example/causeline/causeline/core/Waiting" "order" "J" (.long q4)
set_option maxRecDepth 65536 in
set_option maxHeartbeats 40000000 in
theorem rm5 (l : Launch) (Z : State) (a0 : Array Value) (hw : ∀ d ∈ tables_1, d.before a0 Z = true) (ws : List Jvm.Cond) (va : Addr) (q1 : Int64) (q2 : Int64) (q3 : Int64) (q4 : Int64) (vi : Int32) (h0 : Heap) (n0 : Nat) (Z0 : n0 ≤ h0.size) (Ea : Exa Z h0 va "com/example/causeline/causeline/core/Waiting") (F_alarm : Fld Z h0 va "com/example/causeline/causeline/core/Waiting" "alarm" "J" (.long (0 : Int64))) (F_message : Fld Z h0 va "com/example/causeline/causeline/core/Waiting" "message" "Lcom/example/causeline/causeline/core/Message;" .null) (F_arrived : Fld Z h0 va "com/example/causeline/causeline/core/Waiting" "arrived" "J" (.long (0 : Int64))) (F_sent : Fld Z h0 va "com/example/causeline/causeline/core/Waiting" "sent" "J" (.long (0 : Int64))) (F_deadline : Fld Z h0 va "com/example/causeline/causeline/core/Waiting" "deadline" "J" (.long (0 : Int64))) (F_order : Fld Z h0 va "com/example/causeline/causeline/core/Waiting" "order" "J" (.long (0 : Int64))) (F_latest : Fld Z h0 va "com/example/causeline/causeline/core/Waiting" "latest" "J" (.long (0 : Int64))) (F_namedDone : Fld Z h0 va "com/example/causeline/causeline/core/Waiting" "namedDone" "I" (.int (0 : Int32))) (g_va : n0 ≤ va) :
    MetFree l (⟨"com/example/causeline/causeline/core/Waiting", "<init>", "(Lcom/example/causeline/causeline/core/Message;JJJJI)V"⟩ : MethodName) (head1 (Jvm.Cond.code (⟨"com/example/causeline/causeline/core/Waiting", "<init>", "(Lcom/example/causeline/causeline/core/Message;JJJJI)V"⟩ : MethodName) prog_77_method_1_code 11 none :: ws) ({ frames := 1, cells := 0, slots := 0, locals := 12 } : Room)) (fun a U => a = #[(.ref va), .null, (.long q1), (.long q2), (.long q3), (.long q4), (.int vi)] ∧ Z.Warmed39 U.vm ∧ U.heap = h0) (fun _ _ _ _ _ => True) (fun _ U o U' => ∃ v L, o = .returned v ∧ Q5 Z va q1 q2 q3 q4 vi h0 n0 v U'.heap L ∧ FrameEnd U o U' L ({ frames := 1, cells := 0, slots := 0, locals := 12 } : Room).cells ({ frames := 1, cells := 0, slots := 0, locals := 12 } : Room).slots) := by
  refine MetFree.of_bodySF (plainFor_of_name pn_76) hisR ?_
  intro p e s m args below meth c s₁ Bd hml0 hP hK
  obtain ⟨rfl, hZ, hh⟩ := hP
  have hx := Bd.exec
  have hby := Bd.bytes
  have hml : c.maxLocals = 11 := hml0
  have hown : s.vm.findClass "com/example/causeline/causeline/core/Waiting" = some m.cls := findClass_of_methodNamed Bd.named
  have hnm := (name_of_methodNamed Bd.named Bd.method).1
  have X0 : Stand p l e ({ frames := 1, cells := 0, slots := 0, locals := 12 } : Room) s m #[(.ref va), .null, (.long q1), (.long q2), (.long q3), (.long q4), (.int vi)] below meth c s₁ [] 0 0 := Stand.of_body Bd
  have e0 : s₁.heap = h0 := by rw [← hh, Bd.state]; rfl
  have N0 := Fr.nil n0
  have pre0 : ∀ t, Steps p.tables e below (s₁.setTop (mkF m 0 #[.val (.ref va), .val .null, .val (.long q1), .second, .val (.long q2), .second, .val (.long q3), .second, .val (.long q4), .second, .val (.int vi)] [])) t → Steps p.tables e below (s₁.setTop (entryFrame m #[(.ref va), .null, (.long q1), (.long q2), (.long q3), (.long q4), (.int vi)] 11)) t := fun t k => castTop (ef_rm5 m va q1 q2 q3 q4 vi) k
  obtain ⟨T1, X1, e1, st1⟩ := initO X0 hx hZ hown (hw _ (List.mem_of_getElem? (i := 43) rfl)) (hw _ (List.mem_of_getElem? (i := 15) rfl)) (hw _ (List.mem_of_getElem? (i := 16) rfl)) e0 (g := (mkF m 1 #[.val (.ref va), .val .null, .val (.long q1), .second, .val (.long q2), .second, .val (.long q3), .second, .val (.long q4), .second, .val (.int vi)] [(.ref va)])) rfl (by rw [hml]; rfl) rfl (hb hby d5_1) (by decide) (W := 0) (by show 2 * 0 + _ ≤ _; exact Nat.le_of_eq rfl) (by decide)
  obtain ⟨T2, h2, X2, e2, W2, st2⟩ := putF X1 hx hZ hown (host := "") (Or.inl (hw _ (List.mem_of_getElem? (i := 45) rfl))) Via.refl e1 F_alarm Ea (Or.inl (hw _ (List.mem_of_getElem? (i := 46) rfl))) (hw _ (List.mem_of_getElem? (i := 37) rfl)) (ty := .long) (by decide) rfl rfl (g := (mkF m 8 #[.val (.ref va), .val .null, .val (.long q1), .second, .val (.long q2), .second, .val (.long q3), .second, .val (.long q4), .second, .val (.int vi)] [(.long (9223372036854775807 : Int64)), (.ref va)])) rfl rfl (hb hby d5_8)
  have Fw2 : Fld Z h2 va "com/example/causeline/causeline/core/Waiting" "alarm" "J" (.long (9223372036854775807 : Int64)) := F_alarm.same W2
  have c3 : Exa Z h2 va "com/example/causeline/causeline/core/Waiting" := Ea.wr W2
  have c4 : Fld Z h2 va "com/example/causeline/causeline/core/Waiting" "message" "Lcom/example/causeline/causeline/core/Message;" .null := F_message.other W2 (Or.inr (slot_ne (Or.inr (hw _ (List.mem_of_getElem? (i := 48) rfl))) (Or.inl (hw _ (List.mem_of_getElem? (i := 46) rfl))) (by decide) (t := (.object "com/example/causeline/causeline/core/Message")) (t' := .long) (by decide) (by decide)))
  have c5 : Fld Z h2 va "com/example/causeline/causeline/core/Waiting" "arrived" "J" (.long (0 : Int64)) := F_arrived.other W2 (Or.inr (slot_ne (Or.inr (hw _ (List.mem_of_getElem? (i := 50) rfl))) (Or.inl (hw _ (List.mem_of_getElem? (i := 46) rfl))) (by decide) (t := .long) (t' := .long) (by decide) (by decide)))
  have c6 : Fld Z h2 va "com/example/causeline/causeline/core/Waiting" "sent" "J" (.long (0 : Int64)) := F_sent.other W2 (Or.inr (slot_ne (Or.inr (hw _ (List.mem_of_getElem? (i := 52) rfl))) (Or.inl (hw _ (List.mem_of_getElem? (i := 46) rfl))) (by decide) (t := .long) (t' := .long) (by decide) (by decide)))
  have c7 : Fld Z h2 va "com/example/causeline/causeline/core/Waiting" "deadline" "J" (.long (0 : Int64)) := F_deadline.other W2 (Or.inr (slot_ne (Or.inr (hw _ (List.mem_of_getElem? (i := 54) rfl))) (Or.inl (hw _ (List.mem_of_getElem? (i := 46) rfl))) (by decide) (t := .long) (t' := .long) (by decide) (by decide)))
  have c8 : Fld Z h2 va "com/example/causeline/causeline/core/Waiting" "order" "J" (.long (0 : Int64)) := F_order.other W2 (Or.inr (slot_ne (Or.inr (hw _ (List.mem_of_getElem? (i := 56) rfl))) (Or.inl (hw _ (List.mem_of_getElem? (i := 46) rfl))) (by decide) (t := .long) (t' := .long) (by decide) (by decide)))
  have c9 : Fld Z h2 va "com/example/causeline/causeline/core/Waiting" "latest" "J" (.long (0 : Int64)) := F_latest.other W2 (Or.inr (slot_ne (Or.inl (hw _ (List.mem_of_getElem? (i := 58) rfl))) (Or.inl (hw _ (List.mem_of_getElem? (i := 46) rfl))) (by decide) (t := .long) (t' := .long) (by decide) (by decide)))
  have c10 : Fld Z h2 va "com/example/causeline/causeline/core/Waiting" "namedDone" "I" (.int (0 : Int32)) := F_namedDone.other W2 (Or.inr (slot_ne (Or.inl (hw _ (List.mem_of_getElem? (i := 60) rfl))) (Or.inl (hw _ (List.mem_of_getElem? (i := 46) rfl))) (by decide) (t := .int) (t' := .long) (by decide) (by decide)))
  have Z2 : n0 ≤ h2.size := Nat.le_trans Z0 (Keep.of_wr W2).1
  have N2 := Fr.snoc X2 N0 g_va
  have K2 : Keep h0 h2 [va] := (Keep.refl h0 [va]).wr W2 (Or.inl (List.mem_of_getElem? (i := 0) rfl))
  obtain ⟨T11, h11, X11, e11, W11, st11⟩ := putF X2 hx hZ hown (host := "") (Or.inl (hw _ (List.mem_of_getElem? (i := 47) rfl))) Via.refl e2 c4 c3 (Or.inr ⟨(hw _ (List.mem_of_getElem? (i := 48) rfl)), rfl, hnm⟩) (hw _ (List.mem_of_getElem? (i := 37) rfl)) (ty := (.object "com/example/causeline/causeline/core/Message")) (by decide) rfl rfl (g := (mkF m 13 #[.val (.ref va), .val .null, .val (.long q1), .second, .val (.long q2), .second, .val (.long q3), .second, .val (.long q4), .second, .val (.int vi)] [.null, (.ref va)])) rfl rfl (hb hby d5_13)
  have Fw11 : Fld Z h11 va "com/example/causeline/causeline/core/Waiting" "message" "Lcom/example/causeline/causeline/core/Message;" .null := c4.same W11
  have c12 : Exa Z h11 va "com/example/causeline/causeline/core/Waiting" := c3.wr W11
  have c13 : Fld Z h11 va "com/example/causeline/causeline/core/Waiting" "alarm" "J" (.long (9223372036854775807 : Int64)) := Fw2.other W11 (Or.inr (slot_ne (Or.inl (hw _ (List.mem_of_getElem? (i := 46) rfl))) (Or.inr (hw _ (List.mem_of_getElem? (i := 48) rfl))) (by decide) (t := .long) (t' := (.object "com/example/causeline/causeline/core/Message")) (by decide) (by decide)))
  have c14 : Fld Z h11 va "com/example/causeline/causeline/core/Waiting" "arrived" "J" (.long (0 : Int64)) := c5.other W11 (Or.inr (slot_ne (Or.inr (hw _ (List.mem_of_getElem? (i := 50) rfl))) (Or.inr (hw _ (List.mem_of_getElem? (i := 48) rfl))) (by decide) (t := .long) (t' := (.object "com/example/causeline/causeline/core/Message")) (by decide) (by decide)))
  have c15 : Fld Z h11 va "com/example/causeline/causeline/core/Waiting" "sent" "J" (.long (0 : Int64)) := c6.other W11 (Or.inr (slot_ne (Or.inr (hw _ (List.mem_of_getElem? (i := 52) rfl))) (Or.inr (hw _ (List.mem_of_getElem? (i := 48) rfl))) (by decide) (t := .long) (t' := (.object "com/example/causeline/causeline/core/Message")) (by decide) (by decide)))
  have c16 : Fld Z h11 va "com/example/causeline/causeline/core/Waiting" "deadline" "J" (.long (0 : Int64)) := c7.other W11 (Or.inr (slot_ne (Or.inr (hw _ (List.mem_of_getElem? (i := 54) rfl))) (Or.inr (hw _ (List.mem_of_getElem? (i := 48) rfl))) (by decide) (t := .long) (t' := (.object "com/example/causeline/causeline/core/Message")) (by decide) (by decide)))
  have c17 : Fld Z h11 va "com/example/causeline/causeline/core/Waiting" "order" "J" (.long (0 : Int64)) := c8.other W11 (Or.inr (slot_ne (Or.inr (hw _ (List.mem_of_getElem? (i := 56) rfl))) (Or.inr (hw _ (List.mem_of_getElem? (i := 48) rfl))) (by decide) (t := .long) (t' := (.object "com/example/causeline/causeline/core/Message")) (by decide) (by decide)))
  have c18 : Fld Z h11 va "com/example/causeline/causeline/core/Waiting" "latest" "J" (.long (0 : Int64)) := c9.other W11 (Or.inr (slot_ne (Or.inl (hw _ (List.mem_of_getElem? (i := 58) rfl))) (Or.inr (hw _ (List.mem_of_getElem? (i := 48) rfl))) (by decide) (t := .long) (t' := (.object "com/example/causeline/causeline/core/Message")) (by decide) (by decide)))
  have c19 : Fld Z h11 va "com/example/causeline/causeline/core/Waiting" "namedDone" "I" (.int (0 : Int32)) := c10.other W11 (Or.inr (slot_ne (Or.inl (hw _ (List.mem_of_getElem? (i := 60) rfl))) (Or.inr (hw _ (List.mem_of_getElem? (i := 48) rfl))) (by decide) (t := .int) (t' := (.object "com/example/causeline/causeline/core/Message")) (by decide) (by decide)))
  have Z11 : n0 ≤ h11.size := Nat.le_trans Z2 (Keep.of_wr W11).1
  have N11 := Fr.snoc X11 N2 g_va
  have K11 : Keep h0 h11 [va] := K2.wr W11 (Or.inl (List.mem_of_getElem? (i := 0) rfl))
  obtain ⟨T20, h20, X20, e20, W20, st20⟩ := putF X11 hx hZ hown (host := "") (Or.inl (hw _ (List.mem_of_getElem? (i := 49) rfl))) Via.refl e11 c14 c12 (Or.inr ⟨(hw _ (List.mem_of_getElem? (i := 50) rfl)), rfl, hnm⟩) (hw _ (List.mem_of_getElem? (i := 37) rfl)) (ty := .long) (by decide) rfl rfl (g := (mkF m 18 #[.val (.ref va), .val .null, .val (.long q1), .second, .val (.long q2), .second, .val (.long q3), .second, .val (.long q4), .second, .val (.int vi)] [(.long q1), (.ref va)])) rfl rfl (hb hby d5_18)
  have Fw20 : Fld Z h20 va "com/example/causeline/causeline/core/Waiting" "arrived" "J" (.long q1) := c14.same W20
  have c21 : Exa Z h20 va "com/example/causeline/causeline/core/Waiting" := c12.wr W20
  have c22 : Fld Z h20 va "com/example/causeline/causeline/core/Waiting" "alarm" "J" (.long (9223372036854775807 : Int64)) := c13.other W20 (Or.inr (slot_ne (Or.inl (hw _ (List.mem_of_getElem? (i := 46) rfl))) (Or.inr (hw _ (List.mem_of_getElem? (i := 50) rfl))) (by decide) (t := .long) (t' := .long) (by decide) (by decide)))
  have c23 : Fld Z h20 va "com/example/causeline/causeline/core/Waiting" "message" "Lcom/example/causeline/causeline/core/Message;" .null := Fw11.other W20 (Or.inr (slot_ne (Or.inr (hw _ (List.mem_of_getElem? (i := 48) rfl))) (Or.inr (hw _ (List.mem_of_getElem? (i := 50) rfl))) (by decide) (t := (.object "com/example/causeline/causeline/core/Message")) (t' := .long) (by decide) (by decide)))
  have c24 : Fld Z h20 va "com/example/causeline/causeline/core/Waiting" "sent" "J" (.long (0 : Int64)) := c15.other W20 (Or.inr (slot_ne (Or.inr (hw _ (List.mem_of_getElem? (i := 52) rfl))) (Or.inr (hw _ (List.mem_of_getElem? (i := 50) rfl))) (by decide) (t := .long) (t' := .long) (by decide) (by decide)))
  have c25 : Fld Z h20 va "com/example/causeline/causeline/core/Waiting" "deadline" "J" (.long (0 : Int64)) := c16.other W20 (Or.inr (slot_ne (Or.inr (hw _ (List.mem_of_getElem? (i := 54) rfl))) (Or.inr (hw _ (List.mem_of_getElem? (i := 50) rfl))) (by decide) (t := .long) (t' := .long) (by decide) (by decide)))
  have c26 : Fld Z h20 va "com/example/causeline/causeline/core/Waiting" "order" "J" (.long (0 : Int64)) := c17.other W20 (Or.inr (slot_ne (Or.inr (hw _ (List.mem_of_getElem? (i := 56) rfl))) (Or.inr (hw _ (List.mem_of_getElem? (i := 50) rfl))) (by decide) (t := .long) (t' := .long) (by decide) (by decide)))
  have c27 : Fld Z h20 va "com/example/causeline/causeline/core/Waiting" "latest" "J" (.long (0 : Int64)) := c18.other W20 (Or.inr (slot_ne (Or.inl (hw _ (List.mem_of_getElem? (i := 58) rfl))) (Or.inr (hw _ (List.mem_of_getElem? (i := 50) rfl))) (by decide) (t := .long) (t' := .long) (by decide) (by decide)))
  have c28 : Fld Z h20 va "com/example/causeline/causeline/core/Waiting" "namedDone" "I" (.int (0 : Int32)) := c19.other W20 (Or.inr (slot_ne (Or.inl (hw _ (List.mem_of_getElem? (i := 60) rfl))) (Or.inr (hw _ (List.mem_of_getElem? (i := 50) rfl))) (by decide) (t := .int) (t' := .long) (by decide) (by decide)))
  have Z20 : n0 ≤ h20.size := Nat.le_trans Z11 (Keep.of_wr W20).1
  have N20 := Fr.snoc X20 N11 g_va
  have K20 : Keep h0 h20 [va] := K11.wr W20 (Or.inl (List.mem_of_getElem? (i := 0) rfl))
  obtain ⟨T29, h29, X29, e29, W29, st29⟩ := putF X20 hx hZ hown (host := "") (Or.inl (hw _ (List.mem_of_getElem? (i := 51) rfl))) Via.refl e20 c24 c21 (Or.inr ⟨(hw _ (List.mem_of_getElem? (i := 52) rfl)), rfl, hnm⟩) (hw _ (List.mem_of_getElem? (i := 37) rfl)) (ty := .long) (by decide) rfl rfl (g := (mkF m 24 #[.val (.ref va), .val .null, .val (.long q1), .second, .val (.long q2), .second, .val (.long q3), .second, .val (.long q4), .second, .val (.int vi)] [(.long q2), (.ref va)])) rfl rfl (hb hby d5_24)
  have Fw29 : Fld Z h29 va "com/example/causeline/causeline/core/Waiting" "sent" "J" (.long q2) := c24.same W29
  have c30 : Exa Z h29 va "com/example/causeline/causeline/core/Waiting" := c21.wr W29
  have c31 : Fld Z h29 va "com/example/causeline/causeline/core/Waiting" "alarm" "J" (.long (9223372036854775807 : Int64)) := c22.other W29 (Or.inr (slot_ne (Or.inl (hw _ (List.mem_of_getElem? (i := 46) rfl))) (Or.inr (hw _ (List.mem_of_getElem? (i := 52) rfl))) (by decide) (t := .long) (t' := .long) (by decide) (by decide)))
  have c32 : Fld Z h29 va "com/example/causeline/causeline/core/Waiting" "message" "Lcom/example/causeline/causeline/core/Message;" .null := c23.other W29 (Or.inr (slot_ne (Or.inr (hw _ (List.mem_of_getElem? (i := 48) rfl))) (Or.inr (hw _ (List.mem_of_getElem? (i := 52) rfl))) (by decide) (t := (.object "com/example/causeline/causeline/core/Message")) (t' := .long) (by decide) (by decide)))
  have c33 : Fld Z h29 va "com/example/causeline/causeline/core/Waiting" "arrived" "J" (.long q1) := Fw20.other W29 (Or.inr (slot_ne (Or.inr (hw _ (List.mem_of_getElem? (i := 50) rfl))) (Or.inr (hw _ (List.mem_of_getElem? (i := 52) rfl))) (by decide) (t := .long) (t' := .long) (by decide) (by decide)))
  have c34 : Fld Z h29 va "com/example/causeline/causeline/core/Waiting" "deadline" "J" (.long (0 : Int64)) := c25.other W29 (Or.inr (slot_ne (Or.inr (hw _ (List.mem_of_getElem? (i := 54) rfl))) (Or.inr (hw _ (List.mem_of_getElem? (i := 52) rfl))) (by decide) (t := .long) (t' := .long) (by decide) (by decide)))
  have c35 : Fld Z h29 va "com/example/causeline/causeline/core/Waiting" "order" "J" (.long (0 : Int64)) := c26.other W29 (Or.inr (slot_ne (Or.inr (hw _ (List.mem_of_getElem? (i := 56) rfl))) (Or.inr (hw _ (List.mem_of_getElem? (i := 52) rfl))) (by decide) (t := .long) (t' := .long) (by decide) (by decide)))
  have c36 : Fld Z h29 va "com/example/causeline/causeline/core/Waiting" "latest" "J" (.long (0 : Int64)) := c27.other W29 (Or.inr (slot_ne (Or.inl (hw _ (List.mem_of_getElem? (i := 58) rfl))) (Or.inr (hw _ (List.mem_of_getElem? (i := 52) rfl))) (by decide) (t := .long) (t' := .long) (by decide) (by decide)))
  have c37 : Fld Z h29 va "com/example/causeline/causeline/core/Waiting" "namedDone" "I" (.int (0 : Int32)) := c28.other W29 (Or.inr (slot_ne (Or.inl (hw _ (List.mem_of_getElem? (i := 60) rfl))) (Or.inr (hw _ (List.mem_of_getElem? (i := 52) rfl))) (by decide) (t := .int) (t' := .long) (by decide) (by decide)))
  have Z29 : n0 ≤ h29.size := Nat.le_trans Z20 (Keep.of_wr W29).1
  have N29 := Fr.snoc X29 N20 g_va
  have K29 : Keep h0 h29 [va] := K20.wr W29 (Or.inl (List.mem_of_getElem? (i := 0) rfl))
  obtain ⟨T38, h38, X38, e38, W38, st38⟩ := putF X29 hx hZ hown (host := "") (Or.inl (hw _ (List.mem_of_getElem? (i := 53) rfl))) Via.refl e29 c34 c30 (Or.inr ⟨(hw _ (List.mem_of_getElem? (i := 54) rfl)), rfl, hnm⟩) (hw _ (List.mem_of_getElem? (i := 37) rfl)) (ty := .long) (by decide) rfl rfl (g := (mkF m 30 #[.val (.ref va), .val .null, .val (.long q1), .second, .val (.long q2), .second, .val (.long q3), .second, .val (.long q4), .second, .val (.int vi)] [(.long q3), (.ref va)])) rfl rfl (hb hby d5_30)
  have Fw38 : Fld Z h38 va "com/example/causeline/causeline/core/Waiting" "deadline" "J" (.long q3) := c34.same W38
  have c39 : Exa Z h38 va "com/example/causeline/causeline/core/Waiting" := c30.wr W38
  have c40 : Fld Z h38 va "com/example/causeline/causeline/core/Waiting" "alarm" "J" (.long (9223372036854775807 : Int64)) := c31.other W38 (Or.inr (slot_ne (Or.inl (hw _ (List.mem_of_getElem? (i := 46) rfl))) (Or.inr (hw _ (List.mem_of_getElem? (i := 54) rfl))) (by decide) (t := .long) (t' := .long) (by decide) (by decide)))
  have c41 : Fld Z h38 va "com/example/causeline/causeline/core/Waiting" "message" "Lcom/example/causeline/causeline/core/Message;" .null := c32.other W38 (Or.inr (slot_ne (Or.inr (hw _ (List.mem_of_getElem? (i := 48) rfl))) (Or.inr (hw _ (List.mem_of_getElem? (i := 54) rfl))) (by decide) (t := (.object "com/example/causeline/causeline/core/Message")) (t' := .long) (by decide) (by decide)))
  have c42 : Fld Z h38 va "com/example/causeline/causeline/core/Waiting" "arrived" "J" (.long q1) := c33.other W38 (Or.inr (slot_ne (Or.inr (hw _ (List.mem_of_getElem? (i := 50) rfl))) (Or.inr (hw _ (List.mem_of_getElem? (i := 54) rfl))) (by decide) (t := .long) (t' := .long) (by decide) (by decide)))
  have c43 : Fld Z h38 va "com/example/causeline/causeline/core/Waiting" "sent" "J" (.long q2) := Fw29.other W38 (Or.inr (slot_ne (Or.inr (hw _ (List.mem_of_getElem? (i := 52) rfl))) (Or.inr (hw _ (List.mem_of_getElem? (i := 54) rfl))) (by decide) (t := .long) (t' := .long) (by decide) (by decide)))
  have c44 : Fld Z h38 va "com/example/causeline/causeline/core/Waiting" "order" "J" (.long (0 : Int64)) := c35.other W38 (Or.inr (slot_ne (Or.inr (hw _ (List.mem_of_getElem? (i := 56) rfl))) (Or.inr (hw _ (List.mem_of_getElem? (i := 54) rfl))) (by decide) (t := .long) (t' := .long) (by decide) (by decide)))
  have c45 : Fld Z h38 va "com/example/causeline/causeline/core/Waiting" "latest" "J" (.long (0 : Int64)) := c36.other W38 (Or.inr (slot_ne (Or.inl (hw _ (List.mem_of_getElem? (i := 58) rfl))) (Or.inr (hw _ (List.mem_of_getElem? (i := 54) rfl))) (by decide) (t := .long) (t' := .long) (by decide) (by decide)))
  have c46 : Fld Z h38 va "com/example/causeline/causeline/core/Waiting" "namedDone" "I" (.int (0 : Int32)) := c37.other W38 (Or.inr (slot_ne (Or.inl (hw _ (List.mem_of_getElem? (i := 60) rfl))) (Or.inr (hw _ (List.mem_of_getElem? (i := 54) rfl))) (by decide) (t := .int) (t' := .long) (by decide) (by decide)))
  have Z38 : n0 ≤ h38.size := Nat.le_trans Z29 (Keep.of_wr W38).1
  have N38 := Fr.snoc X38 N29 g_va
  have K38 : Keep h0 h38 [va] := K29.wr W38 (Or.inl (List.mem_of_getElem? (i := 0) rfl))
  obtain ⟨T47, h47, X47, e47, W47, st47⟩ := putF X38 hx hZ hown (host := "") (Or.inl (hw _ (List.mem_of_getElem? (i := 55) rfl))) Via.refl e38 c44 c39 (Or.inr ⟨(hw _ (List.mem_of_getElem? (i := 56) rfl)), rfl, hnm⟩) (hw _ (List.mem_of_getElem? (i := 37) rfl)) (ty := .long) (by decide) rfl rfl (g := (mkF m 36 #[.val (.ref va), .val .null, .val (.long q1), .second, .val (.long q2), .second, .val (.long q3), .second, .val (.long q4), .second, .val (.int vi)] [(.long q4), (.ref va)])) rfl rfl (hb hby d5_36)
  have Fw47 : Fld Z h47 va "com/example/causeline/causeline/core/Waiting" "order" "J" (.long q4) := c44.same W47
  have c48 : Exa Z h47 va "com/example/causeline/causeline/core/Waiting" := c39.wr W47
  have c49 : Fld Z h47 va "com/example/causeline/causeline/core/Waiting" "alarm" "J" (.long (9223372036854775807 : Int64)) := c40.other W47 (Or.inr (slot_ne (Or.inl (hw _ (List.mem_of_getElem? (i := 46) rfl))) (Or.inr (hw _ (List.mem_of_getElem? (i := 56) rfl))) (by decide) (t := .long) (t' := .long) (by decide) (by decide)))
  have c50 : Fld Z h47 va "com/example/causeline/causeline/core/Waiting" "message" "Lcom/example/causeline/causeline/core/Message;" .null := c41.other W47 (Or.inr (slot_ne (Or.inr (hw _ (List.mem_of_getElem? (i := 48) rfl))) (Or.inr (hw _ (List.mem_of_getElem? (i := 56) rfl))) (by decide) (t := (.object "com/example/causeline/causeline/core/Message")) (t' := .long) (by decide) (by decide)))
  have c51 : Fld Z h47 va "com/example/causeline/causeline/core/Waiting" "arrived" "J" (.long q1) := c42.other W47 (Or.inr (slot_ne (Or.inr (hw _ (List.mem_of_getElem? (i := 50) rfl))) (Or.inr (hw _ (List.mem_of_getElem? (i := 56) rfl))) (by decide) (t := .long) (t' := .long) (by decide) (by decide)))
  have c52 : Fld Z h47 va "com/example/causeline/causeline/core/Waiting" "sent" "J" (.long q2) := c43.other W47 (Or.inr (slot_ne (Or.inr (hw _ (List.mem_of_getElem? (i := 52) rfl))) (Or.inr (hw _ (List.mem_of_getElem? (i := 56) rfl))) (by decide) (t := .long) (t' := .long) (by decide) (by decide)))
  have c53 : Fld Z h47 va "com/example/causeline/causeline/core/Waiting" "deadline" "J" (.long q3) := Fw38.other W47 (Or.inr (slot_ne (Or.inr (hw _ (List.mem_of_getElem? (i := 54) rfl))) (Or.inr (hw _ (List.mem_of_getElem? (i := 56) rfl))) (by decide) (t := .long) (t' := .long) (by decide) (by decide)))
  have c54 : Fld Z h47 va "com/example/causeline/causeline/core/Waiting" "latest" "J" (.long (0 : Int64)) := c45.other W47 (Or.inr (slot_ne (Or.inl (hw _ (List.mem_of_getElem? (i := 58) rfl))) (Or.inr (hw _ (List.mem_of_getElem? (i := 56) rfl))) (by decide) (t := .long) (t' := .long) (by decide) (by decide)))
  have c55 : Fld Z h47 va "com/example/causeline/causeline/core/Waiting" "namedDone" "I" (.int (0 : Int32)) := c46.other W47 (Or.inr (slot_ne (Or.inl (hw _ (List.mem_of_getElem? (i := 60) rfl))) (Or.inr (hw _ (List.mem_of_getElem? (i := 56) rfl))) (by decide) (t := .int) (t' := .long) (by decide) (by decide)))
  have Z47 : n0 ≤ h47.size := Nat.le_trans Z38 (Keep.of_wr W47).1
  have N47 := Fr.snoc X47 N38 g_va
  have K47 : Keep h0 h47 [va] := K38.wr W47 (Or.inl (List.mem_of_getElem? (i := 0) rfl))
  obtain ⟨T56, h56, X56, e56, W56, st56⟩ := putF X47 hx hZ hown (host := "") (Or.inl (hw _ (List.mem_of_getElem? (i := 57) rfl))) Via.refl e47 c54 c48 (Or.inl (hw _ (List.mem_of_getElem? (i := 58) rfl))) (hw _ (List.mem_of_getElem? (i := 37) rfl)) (ty := .long) (by decide) rfl rfl (g := (mkF m 42 #[.val (.ref va), .val .null, .val (.long q1), .second, .val (.long q2), .second, .val (.long q3), .second, .val (.long q4), .second, .val (.int vi)] [(.long q3), (.ref va)])) rfl rfl (hb hby d5_42)
  have Fw56 : Fld Z h56 va "com/example/causeline/causeline/core/Waiting" "latest" "J" (.long q3) := c54.same W56
  have c57 : Exa Z h56 va "com/example/causeline/causeline/core/Waiting" := c48.wr W56
  have c58 : Fld Z h56 va "com/example/causeline/causeline/core/Waiting" "alarm" "J" (.long (9223372036854775807 : Int64)) := c49.other W56 (Or.inr (slot_ne (Or.inl (hw _ (List.mem_of_getElem? (i := 46) rfl))) (Or.inl (hw _ (List.mem_of_getElem? (i := 58) rfl))) (by decide) (t := .long) (t' := .long) (by decide) (by decide)))
  have c59 : Fld Z h56 va "com/example/causeline/causeline/core/Waiting" "message" "Lcom/example/causeline/causeline/core/Message;" .null := c50.other W56 (Or.inr (slot_ne (Or.inr (hw _ (List.mem_of_getElem? (i := 48) rfl))) (Or.inl (hw _ (List.mem_of_getElem? (i := 58) rfl))) (by decide) (t := (.object "com/example/causeline/causeline/core/Message")) (t' := .long) (by decide) (by decide)))
  have c60 : Fld Z h56 va "com/example/causeline/causeline/core/Waiting" "arrived" "J" (.long q1) := c51.other W56 (Or.inr (slot_ne (Or.inr (hw _ (List.mem_of_getElem? (i := 50) rfl))) (Or.inl (hw _ (List.mem_of_getElem? (i := 58) rfl))) (by decide) (t := .long) (t' := .long) (by decide) (by decide)))
  have c61 : Fld Z h56 va "com/example/causeline/causeline/core/Waiting" "sent" "J" (.long q2) := c52.other W56 (Or.inr (slot_ne (Or.inr (hw _ (List.mem_of_getElem? (i := 52) rfl))) (Or.inl (hw _ (List.mem_of_getElem? (i := 58) rfl))) (by decide) (t := .long) (t' := .long) (by decide) (by decide)))
  have c62 : Fld Z h56 va "com/example/causeline/causeline/core/Waiting" "deadline" "J" (.long q3) := c53.other W56 (Or.inr (slot_ne (Or.inr (hw _ (List.mem_of_getElem? (i := 54) rfl))) (Or.inl (hw _ (List.mem_of_getElem? (i := 58) rfl))) (by decide) (t := .long) (t' := .long) (by decide) (by decide)))
  have c63 : Fld Z h56 va "com/example/causeline/causeline/core/Waiting" "order" "J" (.long q4) := Fw47.other W56 (Or.inr (slot_ne (Or.inr (hw _ (List.mem_of_getElem? (i := 56) rfl))) (Or.inl (hw _ (List.mem_of_getElem? (i := 58) rfl))) (by decide) (t := .long) (t' := .long) (by decide) (by decide)))
  have c64 : Fld Z h56 va "com/example/causeline/causeline/core/Waiting" "namedDone" "I" (.int (0 : Int32)) := c55.other W56 (Or.inr (slot_ne (Or.inl (hw _ (List.mem_of_getElem? (i := 60) rfl))) (Or.inl (hw _ (List.mem_of_getElem? (i := 58) rfl))) (by decide) (t := .int) (t' := .long) (by decide) (by decide)))
  have Z56 : n0 ≤ h56.size := Nat.le_trans Z47 (Keep.of_wr W56).1
  have N56 := Fr.snoc X56 N47 g_va
  have K56 : Keep h0 h56 [va] := K47.wr W56 (Or.inl (List.mem_of_getElem? (i := 0) rfl))
  obtain ⟨T65, h65, X65, e65, W65, st65⟩ := putF X56 hx hZ hown (host := "") (Or.inl (hw _ (List.mem_of_getElem? (i := 59) rfl))) Via.refl e56 c64 c57 (Or.inl (hw _ (List.mem_of_getElem? (i := 60) rfl))) (hw _ (List.mem_of_getElem? (i := 37) rfl)) (ty := .int) (by decide) rfl rfl (g := (mkF m 48 #[.val (.ref va), .val .null, .val (.long q1), .second, .val (.long q2), .second, .val (.long q3), .second, .val (.long q4), .second, .val (.int vi)] [(.int vi), (.ref va)])) rfl rfl (hb hby d5_48)
  have Fw65 : Fld Z h65 va "com/example/causeline/causeline/core/Waiting" "namedDone" "I" (.int vi) := c64.same W65
  have c66 : Exa Z h65 va "com/example/causeline/causeline/core/Waiting" := c57.wr W65
  have c67 : Fld Z h65 va "com/example/causeline/causeline/core/Waiting" "alarm" "J" (.long (9223372036854775807 : Int64)) := c58.other W65 (Or.inr (slot_ne (Or.inl (hw _ (List.mem_of_getElem? (i := 46) rfl))) (Or.inl (hw _ (List.mem_of_getElem? (i := 60) rfl))) (by decide) (t := .long) (t' := .int) (by decide) (by decide)))
  have c68 : Fld Z h65 va "com/example/causeline/causeline/core/Waiting" "message" "Lcom/example/causeline/causeline/core/Message;" .null := c59.other W65 (Or.inr (slot_ne (Or.inr (hw _ (List.mem_of_getElem? (i := 48) rfl))) (Or.inl (hw _ (List.mem_of_getElem? (i := 60) rfl))) (by decide) (t := (.object "com/example/causeline/causeline/core/Message")) (t' := .int) (by decide) (by decide)))
  have c69 : Fld Z h65 va "com/example/causeline/causeline/core/Waiting" "arrived" "J" (.long q1) := c60.other W65 (Or.inr (slot_ne (Or.inr (hw _ (List.mem_of_getElem? (i := 50) rfl))) (Or.inl (hw _ (List.mem_of_getElem? (i := 60) rfl))) (by decide) (t := .long) (t' := .int) (by decide) (by decide)))
  have c70 : Fld Z h65 va "com/example/causeline/causeline/core/Waiting" "sent" "J" (.long q2) := c61.other W65 (Or.inr (slot_ne (Or.inr (hw _ (List.mem_of_getElem? (i := 52) rfl))) (Or.inl (hw _ (List.mem_of_getElem? (i := 60) rfl))) (by decide) (t := .long) (t' := .int) (by decide) (by decide)))
  have c71 : Fld Z h65 va "com/example/causeline/causeline/core/Waiting" "deadline" "J" (.long q3) := c62.other W65 (Or.inr (slot_ne (Or.inr (hw _ (List.mem_of_getElem? (i := 54) rfl))) (Or.inl (hw _ (List.mem_of_getElem? (i := 60) rfl))) (by decide) (t := .long) (t' := .int) (by decide) (by decide)))
  have c72 : Fld Z h65 va "com/example/causeline/causeline/core/Waiting" "order" "J" (.long q4) := c63.other W65 (Or.inr (slot_ne (Or.inr (hw _ (List.mem_of_getElem? (i := 56) rfl))) (Or.inl (hw _ (List.mem_of_getElem? (i := 60) rfl))) (by decide) (t := .long) (t' := .int) (by decide) (by decide)))
  have c73 : Fld Z h65 va "com/example/causeline/causeline/core/Waiting" "latest" "J" (.long q3) := Fw56.other W65 (Or.inr (slot_ne (Or.inl (hw _ (List.mem_of_getElem? (i := 58) rfl))) (Or.inl (hw _ (List.mem_of_getElem? (i := 60) rfl))) (by decide) (t := .long) (t' := .int) (by decide) (by decide)))
  have Z65 : n0 ≤ h65.size := Nat.le_trans Z56 (Keep.of_wr W65).1
  have N65 := Fr.snoc X65 N56 g_va
  have K65 : Keep h0 h65 [va] := K56.wr W65 (Or.inl (List.mem_of_getElem? (i := 0) rfl))
  obtain ⟨fs, hr, hrun, hended, hW, hsame⟩ := X65.leave (v := none) (fun _ => rfl) (hlocks := BodyLoose.notSynchronized Bd)
  refine ⟨_, _, pre0 _ ?_, hrun, hended, _, _, rfl, ?_, ⟨_, rfl⟩, hW, hsame.mono (by decide) (by decide)⟩
  ·
    show Steps p.tables e below (s₁.setTop (mkF m 0 #[.val (.ref va), .val .null, .val (.long q1), .second, .val (.long q2), .second, .val (.long q3), .second, .val (.long q4), .second, .val (.int vi)] [])) _
    refine XS.aloadN X0.here hx rfl (hb hby d5_0) rfl rfl ?_
    show Steps p.tables e below (s₁.setTop (mkF m 1 #[.val (.ref va), .val .null, .val (.long q1), .second, .val (.long q2), .second, .val (.long q3), .second, .val (.long q4), .second, .val (.int vi)] [(.ref va)])) _
    refine st1 _ ?_
    show Steps p.tables e below (T1.setTop (mkF m 4 #[.val (.ref va), .val .null, .val (.long q1), .second, .val (.long q2), .second, .val (.long q3), .second, .val (.long q4), .second, .val (.int vi)] [])) _
    refine XS.aloadN X1.here hx rfl (hb hby d5_4) rfl rfl ?_
    show Steps p.tables e below (T1.setTop (mkF m 5 #[.val (.ref va), .val .null, .val (.long q1), .second, .val (.long q2), .second, .val (.long q3), .second, .val (.long q4), .second, .val (.int vi)] [(.ref va)])) _
    refine X1.ldc2J hx hown (mvT hZ (hw _ (List.mem_of_getElem? (i := 44) rfl))) (g := (mkF m 5 #[.val (.ref va), .val .null, .val (.long q1), .second, .val (.long q2), .second, .val (.long q3), .second, .val (.long q4), .second, .val (.int vi)] [(.ref va)])) rfl (hb hby d5_5) ?_
    show Steps p.tables e below (T1.setTop (mkF m 8 #[.val (.ref va), .val .null, .val (.long q1), .second, .val (.long q2), .second, .val (.long q3), .second, .val (.long q4), .second, .val (.int vi)] [(.long (9223372036854775807 : Int64)), (.ref va)])) _
    refine st2 _ ?_
    show Steps p.tables e below (T2.setTop (mkF m 11 #[.val (.ref va), .val .null, .val (.long q1), .second, .val (.long q2), .second, .val (.long q3), .second, .val (.long q4), .second, .val (.int vi)] [])) _
    refine XS.aloadN X2.here hx rfl (hb hby d5_11) rfl rfl ?_
    show Steps p.tables e below (T2.setTop (mkF m 12 #[.val (.ref va), .val .null, .val (.long q1), .second, .val (.long q2), .second, .val (.long q3), .second, .val (.long q4), .second, .val (.int vi)] [(.ref va)])) _
    refine XS.aloadN X2.here hx rfl (hb hby d5_12) rfl rfl ?_
    show Steps p.tables e below (T2.setTop (mkF m 13 #[.val (.ref va), .val .null, .val (.long q1), .second, .val (.long q2), .second, .val (.long q3), .second, .val (.long q4), .second, .val (.int vi)] [.null, (.ref va)])) _
    refine st11 _ ?_
    show Steps p.tables e below (T11.setTop (mkF m 16 #[.val (.ref va), .val .null, .val (.long q1), .second, .val (.long q2), .second, .val (.long q3), .second, .val (.long q4), .second, .val (.int vi)] [])) _
    refine XS.aloadN X11.here hx rfl (hb hby d5_16) rfl rfl ?_
    show Steps p.tables e below (T11.setTop (mkF m 17 #[.val (.ref va), .val .null, .val (.long q1), .second, .val (.long q2), .second, .val (.long q3), .second, .val (.long q4), .second, .val (.int vi)] [(.ref va)])) _
    refine XS.lloadN X11.here hx rfl (hb hby d5_17) rfl ?_
    show Steps p.tables e below (T11.setTop (mkF m 18 #[.val (.ref va), .val .null, .val (.long q1), .second, .val (.long q2), .second, .val (.long q3), .second, .val (.long q4), .second, .val (.int vi)] [(.long q1), (.ref va)])) _
    refine st20 _ ?_
    show Steps p.tables e below (T20.setTop (mkF m 21 #[.val (.ref va), .val .null, .val (.long q1), .second, .val (.long q2), .second, .val (.long q3), .second, .val (.long q4), .second, .val (.int vi)] [])) _
    refine XS.aloadN X20.here hx rfl (hb hby d5_21) rfl rfl ?_
    show Steps p.tables e below (T20.setTop (mkF m 22 #[.val (.ref va), .val .null, .val (.long q1), .second, .val (.long q2), .second, .val (.long q3), .second, .val (.long q4), .second, .val (.int vi)] [(.ref va)])) _
    refine XS.lload X20.here hx rfl (hb hby d5_22) rfl ?_
    show Steps p.tables e below (T20.setTop (mkF m 24 #[.val (.ref va), .val .null, .val (.long q1), .second, .val (.long q2), .second, .val (.long q3), .second, .val (.long q4), .second, .val (.int vi)] [(.long q2), (.ref va)])) _
    refine st29 _ ?_
    show Steps p.tables e below (T29.setTop (mkF m 27 #[.val (.ref va), .val .null, .val (.long q1), .second, .val (.long q2), .second, .val (.long q3), .second, .val (.long q4), .second, .val (.int vi)] [])) _
    refine XS.aloadN X29.here hx rfl (hb hby d5_27) rfl rfl ?_
    show Steps p.tables e below (T29.setTop (mkF m 28 #[.val (.ref va), .val .null, .val (.long q1), .second, .val (.long q2), .second, .val (.long q3), .second, .val (.long q4), .second, .val (.int vi)] [(.ref va)])) _
    refine XS.lload X29.here hx rfl (hb hby d5_28) rfl ?_
    show Steps p.tables e below (T29.setTop (mkF m 30 #[.val (.ref va), .val .null, .val (.long q1), .second, .val (.long q2), .second, .val (.long q3), .second, .val (.long q4), .second, .val (.int vi)] [(.long q3), (.ref va)])) _
    refine st38 _ ?_
    show Steps p.tables e below (T38.setTop (mkF m 33 #[.val (.ref va), .val .null, .val (.long q1), .second, .val (.long q2), .second, .val (.long q3), .second, .val (.long q4), .second, .val (.int vi)] [])) _
    refine XS.aloadN X38.here hx rfl (hb hby d5_33) rfl rfl ?_
    show Steps p.tables e below (T38.setTop (mkF m 34 #[.val (.ref va), .val .null, .val (.long q1), .second, .val (.long q2), .second, .val (.long q3), .second, .val (.long q4), .second, .val (.int vi)] [(.ref va)])) _
    refine XS.lload X38.here hx rfl (hb hby d5_34) rfl ?_
    show Steps p.tables e below (T38.setTop (mkF m 36 #[.val (.ref va), .val .null, .val (.long q1), .second, .val (.long q2), .second, .val (.long q3), .second, .val (.long q4), .second, .val (.int vi)] [(.long q4), (.ref va)])) _
    refine st47 _ ?_
    show Steps p.tables e below (T47.setTop (mkF m 39 #[.val (.ref va), .val .null, .val (.long q1), .second, .val (.long q2), .second, .val (.long q3), .second, .val (.long q4), .second, .val (.int vi)] [])) _
    refine XS.aloadN X47.here hx rfl (hb hby d5_39) rfl rfl ?_
    show Steps p.tables e below (T47.setTop (mkF m 40 #[.val (.ref va), .val .null, .val (.long q1), .second, .val (.long q2), .second, .val (.long q3), .second, .val (.long q4), .second, .val (.int vi)] [(.ref va)])) _
    refine XS.lload X47.here hx rfl (hb hby d5_40) rfl ?_
    show Steps p.tables e below (T47.setTop (mkF m 42 #[.val (.ref va), .val .null, .val (.long q1), .second, .val (.long q2), .second, .val (.long q3), .second, .val (.long q4), .second, .val (.int vi)] [(.long q3), (.ref va)])) _
    refine st56 _ ?_
    show Steps p.tables e below (T56.setTop (mkF m 45 #[.val (.ref va), .val .null, .val (.long q1), .second, .val (.long q2), .second, .val (.long q3), .second, .val (.long q4), .second, .val (.int vi)] [])) _
    refine XS.aloadN X56.here hx rfl (hb hby d5_45) rfl rfl ?_
    show Steps p.tables e below (T56.setTop (mkF m 46 #[.val (.ref va), .val .null, .val (.long q1), .second, .val (.long q2), .second, .val (.long q3), .second, .val (.long q4), .second, .val (.int vi)] [(.ref va)])) _
    refine XS.iload X56.here hx rfl (hb hby d5_46) rfl ?_
    show Steps p.tables e below (T56.setTop (mkF m 48 #[.val (.ref va), .val .null, .val (.long q1), .second, .val (.long q2), .second, .val (.long q3), .second, .val (.long q4), .second, .val (.int vi)] [(.int vi), (.ref va)])) _
    refine st65 _ ?_
    show Steps p.tables e below (T65.setTop (mkF m 51 #[.val (.ref va), .val .null, .val (.long q1), .second, .val (.long q2), .second, .val (.long q3), .second, .val (.long q4), .second, .val (.int vi)] [])) _
    exact X65.returnOut hx Bd.returns (hb hby d5_51) hr
  ·
    show Q5 Z va q1 q2 q3 q4 vi h0 n0 _ T65.heap _
    rw [e65]
    exact ⟨rfl, N65, K65, c72⟩
theorem d8_0 : decode jdk_29_method_65_code 0 = .ok (.iload_n 0, 1) := by decide +kernel
theorem d8_1 : decode jdk_29_method_65_code 1 = .ok (.iload_n 1, 1) := by decide +kernel
theorem d8_2 : decode jdk_29_method_65_code 2 = .ok (.if_icmp .lt 7, 3) := by decide +kernel
theorem d8_9 : decode jdk_29_method_65_code 9 = .ok (.iload_n 1, 1) := by decide +kernel
theorem d8_10 : decode jdk_29_method_65_code 10 = .ok (.ireturn, 1) := by decide +kernel
theorem d8_5 : decode jdk_29_method_65_code 5 = .ok (.iload_n 0, 1) := by decide +kernel
theorem d8_6 : decode jdk_29_method_65_code 6 = .ok (.goto 4, 3) := by decide +kernel
theorem ef_rm8 (m : MethodId) (x0 : Int32) (x1 : Int32) : entryFrame m #[(.int x0), (.int x1)] 2 = mkF m 0 #[.val (.int x0), .val (.int x1)] [] := by first | (simp [entryFrame, mkF, argsToLocals, Value.category]; done) | rfl
def own_max (vx : Int32) (vy : Int32) : Int32 := (if vx < vy then vy else vx)
def Q8 (Z : State) (vx : Int32) (vy : Int32) (h0 : Heap) (n0 : Nat) (v : Option Value) (h : Heap) (L : List Loc) : Prop := v = some (.int (own_max vx vy)) ∧ Fr n0 L ∧ h = h0
set_option maxRecDepth 65536 in
set_option maxHeartbeats 40000000 in
theorem rm8 (l : Launch) (Z : State) (a0 : Array Value) (hw : ∀ d ∈ tables_1, d.before a0 Z = true) (ws : List Jvm.Cond) (vx : Int32) (vy : Int32) (h0 : Heap) (n0 : Nat) (Z0 : n0 ≤ h0.size) :
    MetFree l (⟨"java/lang/Math", "max", "(II)I"⟩ : MethodName) (head1 (Jvm.Cond.code (⟨"java/lang/Math", "max", "(II)I"⟩ : MethodName) jdk_29_method_65_code 2 (some .int) :: ws) ({ frames := 0, cells := 0, slots := 0, locals := 0 } : Room)) (fun a U => a = #[(.int vx), (.int vy)] ∧ Z.Warmed39 U.vm ∧ U.heap = h0) (fun _ _ _ _ _ => True) (fun _ U o U' => ∃ v L, o = .returned v ∧ Q8 Z vx vy h0 n0 v U'.heap L ∧ FrameEnd U o U' L ({ frames := 0, cells := 0, slots := 0, locals := 0 } : Room).cells ({ frames := 0, cells := 0, slots := 0, locals := 0 } : Room).slots) := by
  refine MetFree.of_bodySF (Jvm.Free.JP.mathPlain rfl (by decide +kernel)) hisR ?_
  intro p e s m args below meth c s₁ Bd hml0 hP hK
  obtain ⟨rfl, hZ, hh⟩ := hP
  have hx := Bd.exec
  have hby := Bd.bytes
  have hml : c.maxLocals = 2 := hml0
  have hown : s.vm.findClass "java/lang/Math" = some m.cls := findClass_of_methodNamed Bd.named
  have hnm := (name_of_methodNamed Bd.named Bd.method).1
  have X0 : Stand p l e ({ frames := 0, cells := 0, slots := 0, locals := 0 } : Room) s m #[(.int vx), (.int vy)] below meth c s₁ [] 0 0 := Stand.of_body Bd
  have e0 : s₁.heap = h0 := by rw [← hh, Bd.state]; rfl
  have N0 := Fr.nil n0
  have pre0 : ∀ t, Steps p.tables e below (s₁.setTop (mkF m 0 #[.val (.int vx), .val (.int vy)] [])) t → Steps p.tables e below (s₁.setTop (entryFrame m #[(.int vx), (.int vy)] 2)) t := fun t k => castTop (ef_rm8 m vx vy) k
  have pre1 : ∀ t, Steps p.tables e below (s₁.setTop (mkF m 2 #[.val (.int vx), .val (.int vy)] [(.int vy), (.int vx)])) t → Steps p.tables e below (s₁.setTop (entryFrame m #[(.int vx), (.int vy)] 2)) t := by
    intro t kt
    refine pre0 t ?_
    show Steps p.tables e below (s₁.setTop (mkF m 0 #[.val (.int vx), .val (.int vy)] [])) _
    refine XS.iloadN X0.here hx rfl (hb hby d8_0) rfl ?_
    show Steps p.tables e below (s₁.setTop (mkF m 1 #[.val (.int vx), .val (.int vy)] [(.int vx)])) _
    refine XS.iloadN X0.here hx rfl (hb hby d8_1) rfl ?_
    exact kt
  by_cases hc2 : vx < vy
  ·
    obtain ⟨fs, hr, hrun, hended, hW, hsame⟩ := X0.leave (v := some (.int vy)) (fun h => by rw [Bd.returns] at h; cases h) (hlocks := BodyLoose.notSynchronized Bd)
    refine ⟨_, _, pre1 _ ?_, hrun, hended, _, _, rfl, ?_, ⟨_, rfl⟩, hW, hsame.mono (by decide) (by decide)⟩
    ·
      show Steps p.tables e below (s₁.setTop (mkF m 2 #[.val (.int vx), .val (.int vy)] [(.int vy), (.int vx)])) _
      refine XS.icmpYes X0.here hx rfl (pc0 := 2) (pc' := 9) rfl (hb hby d8_2) rfl (tlt (hc2 : vx < vy)).1 (by decide) (by decide) ?_
      show Steps p.tables e below (s₁.setTop (mkF m 9 #[.val (.int vx), .val (.int vy)] [])) _
      refine XS.iloadN X0.here hx rfl (hb hby d8_9) rfl ?_
      show Steps p.tables e below (s₁.setTop (mkF m 10 #[.val (.int vx), .val (.int vy)] [(.int vy)])) _
      exact retOut X0 hx (t := .int) (i := .ireturn) Bd.returns rfl (Or.inl ⟨rfl, Or.inl rfl, _, rfl⟩) (hb hby d8_10) hr
    ·
      show Q8 Z vx vy h0 n0 _ s₁.heap _
      rw [e0]
      have hv : vy = (own_max vx vy) := by rw [own_max, if_pos hc2]
      exact ⟨(congrArg (fun z => some (Value.int z)) hv), N0, rfl⟩
  ·
    obtain ⟨fs, hr, hrun, hended, hW, hsame⟩ := X0.leave (v := some (.int vx)) (fun h => by rw [Bd.returns] at h; cases h) (hlocks := BodyLoose.notSynchronized Bd)
    refine ⟨_, _, pre1 _ ?_, hrun, hended, _, _, rfl, ?_, ⟨_, rfl⟩, hW, hsame.mono (by decide) (by decide)⟩
    ·
      show Steps p.tables e below (s₁.setTop (mkF m 2 #[.val (.int vx), .val (.int vy)] [(.int vy), (.int vx)])) _
      refine XS.icmpNo X0.here hx rfl (hb hby d8_2) rfl (flt (hc2 : ¬ (vx < vy))).1 ?_
      show Steps p.tables e below (s₁.setTop (mkF m 5 #[.val (.int vx), .val (.int vy)] [])) _
      refine XS.iloadN X0.here hx rfl (hb hby d8_5) rfl ?_
      show Steps p.tables e below (s₁.setTop (mkF m 6 #[.val (.int vx), .val (.int vy)] [(.int vx)])) _
      refine XS.goto X0.here hx rfl (pc0 := 6) (pc' := 10) rfl (hb hby d8_6) (by decide) (by decide) ?_
      show Steps p.tables e below (s₁.setTop (mkF m 10 #[.val (.int vx), .val (.int vy)] [(.int vx)])) _
      exact retOut X0 hx (t := .int) (i := .ireturn) Bd.returns rfl (Or.inl ⟨rfl, Or.inl rfl, _, rfl⟩) (hb hby d8_10) hr
    ·
      show Q8 Z vx vy h0 n0 _ s₁.heap _
      rw [e0]
      have hv : vx = (own_max vx vy) := by rw [own_max, if_neg hc2]
      exact ⟨(congrArg (fun z => some (Value.int z)) hv), N0, rfl⟩
theorem d7_0 : decode prog_36_method_13_code 0 = .ok (.aload_n 0, 1) := by decide +kernel
theorem d7_1 : decode prog_36_method_13_code 1 = .ok (.getfield 23, 3) := by decide +kernel
theorem d7_4 : decode prog_36_method_13_code 4 = .ok (.aload_n 0, 1) := by decide +kernel
theorem d7_5 : decode prog_36_method_13_code 5 = .ok (.getfield 30, 3) := by decide +kernel
theorem d7_8 : decode prog_36_method_13_code 8 = .ok (.isub, 1) := by decide +kernel
theorem d7_9 : decode prog_36_method_13_code 9 = .ok (.istore_n 1, 1) := by decide +kernel
theorem d7_10 : decode prog_36_method_13_code 10 = .ok (.iload_n 1, 1) := by decide +kernel
theorem d7_11 : decode prog_36_method_13_code 11 = .ok (.iconst 2, 1) := by decide +kernel
theorem d7_12 : decode prog_36_method_13_code 12 = .ok (.imul, 1) := by decide +kernel
theorem d7_13 : decode prog_36_method_13_code 13 = .ok (.aload_n 0, 1) := by decide +kernel
theorem d7_14 : decode prog_36_method_13_code 14 = .ok (.getfield 16, 3) := by decide +kernel
theorem d7_17 : decode prog_36_method_13_code 17 = .ok (.arraylength, 1) := by decide +kernel
theorem d7_18 : decode prog_36_method_13_code 18 = .ok (.if_icmp .ge 11, 3) := by decide +kernel
theorem d7_29 : decode prog_36_method_13_code 29 = .ok (.iconst 4, 1) := by decide +kernel
theorem d7_30 : decode prog_36_method_13_code 30 = .ok (.aload_n 0, 1) := by decide +kernel
theorem d7_31 : decode prog_36_method_13_code 31 = .ok (.getfield 16, 3) := by decide +kernel
theorem d7_34 : decode prog_36_method_13_code 34 = .ok (.arraylength, 1) := by decide +kernel
theorem d7_35 : decode prog_36_method_13_code 35 = .ok (.iconst 2, 1) := by decide +kernel
theorem d7_36 : decode prog_36_method_13_code 36 = .ok (.imul, 1) := by decide +kernel
theorem pd_0 : parseMethodDescriptor "(II)I" = some ⟨[.int, .int], some .int⟩ := by decide +kernel
theorem d7_37 : decode prog_36_method_13_code 37 = .ok (.invokestatic 77, 3) := by decide +kernel
theorem d7_40 : decode prog_36_method_13_code 40 = .ok (.istore_n 2, 1) := by decide +kernel
theorem d7_41 : decode prog_36_method_13_code 41 = .ok (.iload_n 2, 1) := by decide +kernel
theorem d7_42 : decode prog_36_method_13_code 42 = .ok (.aload_n 0, 1) := by decide +kernel
theorem d7_43 : decode prog_36_method_13_code 43 = .ok (.getfield 13, 3) := by decide +kernel
theorem d7_46 : decode prog_36_method_13_code 46 = .ok (.arraylength, 1) := by decide +kernel
theorem d7_47 : decode prog_36_method_13_code 47 = .ok (.if_icmp .ne 10, 3) := by decide +kernel
theorem d7_57 : decode prog_36_method_13_code 57 = .ok (.iload_n 2, 1) := by decide +kernel
theorem d7_58 : decode prog_36_method_13_code 58 = .ok (.newarray .long, 2) := by decide +kernel
theorem d7_60 : decode prog_36_method_13_code 60 = .ok (.astore_n 3, 1) := by decide +kernel
theorem d7_61 : decode prog_36_method_13_code 61 = .ok (.iload_n 2, 1) := by decide +kernel
theorem d7_62 : decode prog_36_method_13_code 62 = .ok (.aload_n 0, 1) := by decide +kernel
theorem d7_63 : decode prog_36_method_13_code 63 = .ok (.getfield 16, 3) := by decide +kernel
theorem d7_66 : decode prog_36_method_13_code 66 = .ok (.arraylength, 1) := by decide +kernel
theorem d7_67 : decode prog_36_method_13_code 67 = .ok (.if_icmp .ne 10, 3) := by decide +kernel
theorem d7_77 : decode prog_36_method_13_code 77 = .ok (.iload_n 2, 1) := by decide +kernel
theorem d7_78 : decode prog_36_method_13_code 78 = .ok (.newarray .long, 2) := by decide +kernel
theorem d7_80 : decode prog_36_method_13_code 80 = .ok (.astore 4, 2) := by decide +kernel
theorem d7_82 : decode prog_36_method_13_code 82 = .ok (.aload_n 0, 1) := by decide +kernel
theorem d7_83 : decode prog_36_method_13_code 83 = .ok (.getfield 13, 3) := by decide +kernel
theorem d7_86 : decode prog_36_method_13_code 86 = .ok (.aload_n 0, 1) := by decide +kernel
theorem d7_87 : decode prog_36_method_13_code 87 = .ok (.getfield 30, 3) := by decide +kernel
theorem d7_90 : decode prog_36_method_13_code 90 = .ok (.aload_n 3, 1) := by decide +kernel
theorem d7_91 : decode prog_36_method_13_code 91 = .ok (.iconst 0, 1) := by decide +kernel
theorem d7_92 : decode prog_36_method_13_code 92 = .ok (.iload_n 1, 1) := by decide +kernel
theorem d7_93 : decode prog_36_method_13_code 93 = .ok (.invokestatic 37, 3) := by decide +kernel
theorem d7_96 : decode prog_36_method_13_code 96 = .ok (.aload_n 0, 1) := by decide +kernel
theorem d7_97 : decode prog_36_method_13_code 97 = .ok (.getfield 16, 3) := by decide +kernel
theorem d7_100 : decode prog_36_method_13_code 100 = .ok (.aload_n 0, 1) := by decide +kernel
theorem d7_101 : decode prog_36_method_13_code 101 = .ok (.getfield 30, 3) := by decide +kernel
theorem d7_104 : decode prog_36_method_13_code 104 = .ok (.aload 4, 2) := by decide +kernel
theorem d7_106 : decode prog_36_method_13_code 106 = .ok (.iconst 0, 1) := by decide +kernel
theorem d7_107 : decode prog_36_method_13_code 107 = .ok (.iload_n 1, 1) := by decide +kernel
theorem d7_108 : decode prog_36_method_13_code 108 = .ok (.invokestatic 37, 3) := by decide +kernel
theorem d7_111 : decode prog_36_method_13_code 111 = .ok (.aload_n 0, 1) := by decide +kernel
theorem d7_112 : decode prog_36_method_13_code 112 = .ok (.aload_n 3, 1) := by decide +kernel
theorem d7_113 : decode prog_36_method_13_code 113 = .ok (.putfield 13, 3) := by decide +kernel
theorem d7_116 : decode prog_36_method_13_code 116 = .ok (.aload_n 0, 1) := by decide +kernel
theorem d7_117 : decode prog_36_method_13_code 117 = .ok (.aload 4, 2) := by decide +kernel
theorem d7_119 : decode prog_36_method_13_code 119 = .ok (.putfield 16, 3) := by decide +kernel
theorem d7_122 : decode prog_36_method_13_code 122 = .ok (.aload_n 0, 1) := by decide +kernel
theorem d7_123 : decode prog_36_method_13_code 123 = .ok (.iconst 0, 1) := by decide +kernel
theorem d7_124 : decode prog_36_method_13_code 124 = .ok (.putfield 30, 3) := by decide +kernel
theorem d7_127 : decode prog_36_method_13_code 127 = .ok (.aload_n 0, 1) := by decide +kernel
theorem d7_128 : decode prog_36_method_13_code 128 = .ok (.iload_n 1, 1) := by decide +kernel
theorem d7_129 : decode prog_36_method_13_code 129 = .ok (.putfield 23, 3) := by decide +kernel
theorem d7_132 : decode prog_36_method_13_code 132 = .ok (.return_, 1) := by decide +kernel
theorem ef_rm7 (m : MethodId) (x0 : Addr) : entryFrame m #[(.ref x0)] 5 = mkF m 0 #[.val (.ref x0), .unset, .unset, .unset, .unset] [] := by first | (simp [entryFrame, mkF, argsToLocals, Value.category]; done) | rfl
def Q7 (Z : State) (va : Addr) (vN : Addr) (kN : ClassId) (h0 : Heap) (n0 : Nat) (v : Option Value) (h : Heap) (L : List Loc) : Prop := v = none ∧ Fr n0 L ∧ Keep h0 h [va] ∧ ∃ (vn : Addr) (kn : ClassId) (vo : Addr) (ko : ClassId), h0.size ≤ vn ∧ h0.size ≤ vo ∧ n0 ≤ vn ∧ n0 ≤ vo ∧ vn ≠ vo ∧ Exa Z h va "com/example/causeline/causeline/core/Filing" ∧ Fld Z h va "com/example/causeline/causeline/core/Filing" "numbers" "[J" (.ref vn) ∧ Fld Z h va "com/example/causeline/causeline/core/Filing" "orders" "[J" (.ref vo) ∧ Fld Z h va "com/example/causeline/causeline/core/Filing" "first" "I" (.int (0 : Int32)) ∧ Fld Z h va "com/example/causeline/causeline/core/Filing" "end" "I" (.int (0 : Int32)) ∧ Arv Z h vn kn .long (4 : Int32) [(.long (0 : Int64)), (.long (0 : Int64)), (.long (0 : Int64)), (.long (0 : Int64))] (.long (0 : Int64)) ∧ Arv Z h vo ko .long (4 : Int32) [(.long (0 : Int64)), (.long (0 : Int64)), (.long (0 : Int64)), (.long (0 : Int64))] (.long (0 : Int64))
set_option maxRecDepth 65536 in
set_option maxHeartbeats 40000000 in
theorem rm7 (l : Launch) (Z : State) (a0 : Array Value) (hw : ∀ d ∈ tables_1, d.before a0 Z = true) (ws : List Jvm.Cond) (va : Addr) (vN : Addr) (kN : ClassId) (h0 : Heap) (n0 : Nat) (Z0 : n0 ≤ h0.size) (Ea : Exa Z h0 va "com/example/causeline/causeline/core/Filing") (Fn : Fld Z h0 va "com/example/causeline/causeline/core/Filing" "numbers" "[J" (.ref vN)) (Fo : Fld Z h0 va "com/example/causeline/causeline/core/Filing" "orders" "[J" (.ref vN)) (Ff : Fld Z h0 va "com/example/causeline/causeline/core/Filing" "first" "I" (.int (0 : Int32))) (Fe : Fld Z h0 va "com/example/causeline/causeline/core/Filing" "end" "I" (.int (0 : Int32))) (VN : Arv Z h0 vN kN .long (0 : Int32) [] (.long (0 : Int64))) (g_va : n0 ≤ va) (naN : va ≠ vN) :
    MetFree l (⟨"com/example/causeline/causeline/core/Filing", "makeRoom", "()V"⟩ : MethodName) (head1 (Jvm.Cond.code (⟨"com/example/causeline/causeline/core/Filing", "makeRoom", "()V"⟩ : MethodName) prog_36_method_13_code 5 none :: ws) ({ frames := 1, cells := 2, slots := 8, locals := 18 } : Room)) (fun a U => a = #[(.ref va)] ∧ Z.Warmed39 U.vm ∧ U.heap = h0) (fun _ _ _ _ _ => True) (fun _ U o U' => ∃ v L, o = .returned v ∧ Q7 Z va vN kN h0 n0 v U'.heap L ∧ FrameEnd U o U' L ({ frames := 1, cells := 2, slots := 8, locals := 18 } : Room).cells ({ frames := 1, cells := 2, slots := 8, locals := 18 } : Room).slots) := by
  refine MetFree.of_bodySF (plainFor_of_name pn_48) hisR ?_
  intro p e s m args below meth c s₁ Bd hml0 hP hK
  obtain ⟨rfl, hZ, hh⟩ := hP
  have hx := Bd.exec
  have hby := Bd.bytes
  have hml : c.maxLocals = 5 := hml0
  have hown : s.vm.findClass "com/example/causeline/causeline/core/Filing" = some m.cls := findClass_of_methodNamed Bd.named
  have hnm := (name_of_methodNamed Bd.named Bd.method).1
  have X0 : Stand p l e ({ frames := 1, cells := 2, slots := 8, locals := 18 } : Room) s m #[(.ref va)] below meth c s₁ [] 0 0 := Stand.of_body Bd
  have e0 : s₁.heap = h0 := by rw [← hh, Bd.state]; rfl
  have N0 := Fr.nil n0
  have pre0 : ∀ t, Steps p.tables e below (s₁.setTop (mkF m 0 #[.val (.ref va), .unset, .unset, .unset, .unset] [])) t → Steps p.tables e below (s₁.setTop (entryFrame m #[(.ref va)] 5)) t := fun t k => castTop (ef_rm7 m va) k
  obtain ⟨T1, X1, e1, st1⟩ := getF X0 hx hZ hown (host := "") (Or.inl (hw _ (List.mem_of_getElem? (i := 66) rfl))) Via.refl e0 Fe (g := (mkF m 1 #[.val (.ref va), .unset, .unset, .unset, .unset] [(.ref va)])) rfl rfl (hb hby d7_1)
  obtain ⟨T2, X2, e2, st2⟩ := getF X1 hx hZ hown (host := "") (Or.inl (hw _ (List.mem_of_getElem? (i := 72) rfl))) Via.refl e1 Ff (g := (mkF m 5 #[.val (.ref va), .unset, .unset, .unset, .unset] [(.ref va), (.int (0 : Int32))])) rfl rfl (hb hby d7_5)
  obtain ⟨T3, X3, e3, st3⟩ := getF X2 hx hZ hown (host := "") (Or.inl (hw _ (List.mem_of_getElem? (i := 32) rfl))) Via.refl e2 Fo (g := (mkF m 14 #[.val (.ref va), .val (.int (0 : Int32)), .unset, .unset, .unset] [(.ref va), (.int (0 : Int32))])) rfl rfl (hb hby d7_14)
  obtain ⟨cl4, Ar4, q4, S4, NN4, HH4, GG4⟩ := id VN
  obtain ⟨T5, X5, e5, st5⟩ := getF X3 hx hZ hown (host := "") (Or.inl (hw _ (List.mem_of_getElem? (i := 32) rfl))) Via.refl e3 Fo (g := (mkF m 31 #[.val (.ref va), .val (.int (0 : Int32)), .unset, .unset, .unset] [(.ref va), (.int (4 : Int32))])) rfl rfl (hb hby d7_31)
  obtain ⟨cl6, Ar6, q6, S6, NN6, HH6, GG6⟩ := id VN
  obtain ⟨_, _, ⟨T7, L7, k7, n7⟩, -, X7, ⟨Lc7, hQ7, l7, y7, z7⟩, st7⟩ := Jvm.LawKit.callS X5 hx (y := (⟨"java/lang/Math", "max", "(II)I"⟩ : MethodName)) hown (mvT hZ (hw _ (List.mem_of_getElem? (i := 74) rfl))) (mvT hZ (hw _ (List.mem_of_getElem? (i := 75) rfl))) (mvT hZ (hw _ (List.mem_of_getElem? (i := 76) rfl))) (mvT hZ (hw _ (List.mem_of_getElem? (i := 77) rfl))) (by decide) (backOf (W := 0) (rm8 l Z a0 hw [] (4 : Int32) (0 : Int32)  h0 n0 Z0 ) hZ (hw _ (List.mem_of_getElem? (i := 77) rfl)) (hw _ (List.mem_of_getElem? (i := 76) rfl)) (by decide) (by decide)) (g := (mkF m 37 #[.val (.ref va), .val (.int (0 : Int32)), .unset, .unset, .unset] [(.int (0 : Int32)), (.int (4 : Int32))])) rfl (by rw [hml]; rfl) (argsL := [(.int (4 : Int32)), (.int (0 : Int32))]) (rest := []) (lenOf pd_0 rfl) rfl (by show 2 * 0 + _ ≤ _; exact Nat.le_of_eq rfl) (hb hby d7_37) (fun _ _ => ⟨rfl, e5, (by decide : 0 + 0 ≤ _), (by decide : 0 + 0 ≤ _)⟩)
  dsimp only [Pt.U, Pt.locs, Pt.cells, Pt.slots] at X7 l7 y7 z7 st7 hQ7
  obtain rfl : k7 = 0 := y7; obtain rfl : n7 = 0 := z7
  obtain ⟨rfl, N7q, e7q⟩ := hQ7
  have N7 : Fr n0 L7 := Eq.mpr (congrArg (Fr n0) l7) (Fr.app N0 N7q)
  have hmx : (own_max (4 : Int32) (0 : Int32)) = (4 : Int32) := by decide
  have pre8 : ∀ t, Steps p.tables e below (T7.setTop (mkF m 40 #[.val (.ref va), .val (.int (0 : Int32)), .unset, .unset, .unset] [(.int (own_max (4 : Int32) (0 : Int32)))])) t → Steps p.tables e below (s₁.setTop (entryFrame m #[(.ref va)] 5)) t := by
    intro t kt
    refine pre0 t ?_
    show Steps p.tables e below (s₁.setTop (mkF m 0 #[.val (.ref va), .unset, .unset, .unset, .unset] [])) _
    refine XS.aloadN X0.here hx rfl (hb hby d7_0) rfl rfl ?_
    show Steps p.tables e below (s₁.setTop (mkF m 1 #[.val (.ref va), .unset, .unset, .unset, .unset] [(.ref va)])) _
    refine st1 _ ?_
    show Steps p.tables e below (T1.setTop (mkF m 4 #[.val (.ref va), .unset, .unset, .unset, .unset] [(.int (0 : Int32))])) _
    refine XS.aloadN X1.here hx rfl (hb hby d7_4) rfl rfl ?_
    show Steps p.tables e below (T1.setTop (mkF m 5 #[.val (.ref va), .unset, .unset, .unset, .unset] [(.ref va), (.int (0 : Int32))])) _
    refine st2 _ ?_
    show Steps p.tables e below (T2.setTop (mkF m 8 #[.val (.ref va), .unset, .unset, .unset, .unset] [(.int (0 : Int32)), (.int (0 : Int32))])) _
    refine XS.isub X2.here hx rfl (hb hby d7_8) rfl ?_
    show Steps p.tables e below (T2.setTop (mkF m 9 #[.val (.ref va), .unset, .unset, .unset, .unset] [(.int (0 : Int32))])) _
    refine XS.istoreN X2.here hx rfl (hb hby d7_9) rfl (l' := #[.val (.ref va), .val (.int (0 : Int32)), .unset, .unset, .unset]) rfl ?_
    show Steps p.tables e below (T2.setTop (mkF m 10 #[.val (.ref va), .val (.int (0 : Int32)), .unset, .unset, .unset] [])) _
    refine XS.iloadN X2.here hx rfl (hb hby d7_10) rfl ?_
    show Steps p.tables e below (T2.setTop (mkF m 11 #[.val (.ref va), .val (.int (0 : Int32)), .unset, .unset, .unset] [(.int (0 : Int32))])) _
    refine XS.iconst X2.here hx rfl (hb hby d7_11) ?_
    show Steps p.tables e below (T2.setTop (mkF m 12 #[.val (.ref va), .val (.int (0 : Int32)), .unset, .unset, .unset] [(.int (2 : Int32)), (.int (0 : Int32))])) _
    refine XS.imul X2.here hx rfl (hb hby d7_12) rfl ?_
    show Steps p.tables e below (T2.setTop (mkF m 13 #[.val (.ref va), .val (.int (0 : Int32)), .unset, .unset, .unset] [(.int (0 : Int32))])) _
    refine XS.aloadN X2.here hx rfl (hb hby d7_13) rfl rfl ?_
    show Steps p.tables e below (T2.setTop (mkF m 14 #[.val (.ref va), .val (.int (0 : Int32)), .unset, .unset, .unset] [(.ref va), (.int (0 : Int32))])) _
    refine st3 _ ?_
    show Steps p.tables e below (T3.setTop (mkF m 17 #[.val (.ref va), .val (.int (0 : Int32)), .unset, .unset, .unset] [(.ref vN), (.int (0 : Int32))])) _
    refine X3.arraylength hx (by rw [e3]; exact Ar4.1) (State.isArrayOf_alike hZ.alike Ar4.2.1) (g := (mkF m 17 #[.val (.ref va), .val (.int (0 : Int32)), .unset, .unset, .unset] [(.ref vN), (.int (0 : Int32))])) rfl rfl (hb hby d7_17) _ ?_
    rw [len_of S4 NN4]
    show Steps p.tables e below (T3.setTop (mkF m 18 #[.val (.ref va), .val (.int (0 : Int32)), .unset, .unset, .unset] [(.int (0 : Int32)), (.int (0 : Int32))])) _
    refine XS.icmpYes X3.here hx rfl (pc0 := 18) (pc' := 29) rfl (hb hby d7_18) rfl (flt ((by decide) : ¬ ((0 : Int32) < (0 : Int32)))).2.1 (by decide) (by decide) ?_
    show Steps p.tables e below (T3.setTop (mkF m 29 #[.val (.ref va), .val (.int (0 : Int32)), .unset, .unset, .unset] [])) _
    refine XS.iconst X3.here hx rfl (hb hby d7_29) ?_
    show Steps p.tables e below (T3.setTop (mkF m 30 #[.val (.ref va), .val (.int (0 : Int32)), .unset, .unset, .unset] [(.int (4 : Int32))])) _
    refine XS.aloadN X3.here hx rfl (hb hby d7_30) rfl rfl ?_
    show Steps p.tables e below (T3.setTop (mkF m 31 #[.val (.ref va), .val (.int (0 : Int32)), .unset, .unset, .unset] [(.ref va), (.int (4 : Int32))])) _
    refine st5 _ ?_
    show Steps p.tables e below (T5.setTop (mkF m 34 #[.val (.ref va), .val (.int (0 : Int32)), .unset, .unset, .unset] [(.ref vN), (.int (4 : Int32))])) _
    refine X5.arraylength hx (by rw [e5]; exact Ar6.1) (State.isArrayOf_alike hZ.alike Ar6.2.1) (g := (mkF m 34 #[.val (.ref va), .val (.int (0 : Int32)), .unset, .unset, .unset] [(.ref vN), (.int (4 : Int32))])) rfl rfl (hb hby d7_34) _ ?_
    rw [len_of S6 NN6]
    show Steps p.tables e below (T5.setTop (mkF m 35 #[.val (.ref va), .val (.int (0 : Int32)), .unset, .unset, .unset] [(.int (0 : Int32)), (.int (4 : Int32))])) _
    refine XS.iconst X5.here hx rfl (hb hby d7_35) ?_
    show Steps p.tables e below (T5.setTop (mkF m 36 #[.val (.ref va), .val (.int (0 : Int32)), .unset, .unset, .unset] [(.int (2 : Int32)), (.int (0 : Int32)), (.int (4 : Int32))])) _
    refine XS.imul X5.here hx rfl (hb hby d7_36) rfl ?_
    show Steps p.tables e below (T5.setTop (mkF m 37 #[.val (.ref va), .val (.int (0 : Int32)), .unset, .unset, .unset] [(.int (0 : Int32)), (.int (4 : Int32))])) _
    refine st7 _ ?_
    exact kt
  rw [hmx] at pre8
  obtain ⟨T9, X9, e9, st9⟩ := getF X7 hx hZ hown (host := "") (Or.inl (hw _ (List.mem_of_getElem? (i := 30) rfl))) Via.refl e7q Fn (g := (mkF m 43 #[.val (.ref va), .val (.int (0 : Int32)), .val (.int (4 : Int32)), .unset, .unset] [(.ref va), (.int (4 : Int32))])) rfl rfl (hb hby d7_43)
  obtain ⟨cl10, Ar10, q10, S10, NN10, HH10, GG10⟩ := id VN
  obtain ⟨T11, h11, k11, X11, e11, E11, A11, st11⟩ := newP X9 hx hZ (hw _ (List.mem_of_getElem? (i := 0) rfl)) e9 (g := (mkF m 58 #[.val (.ref va), .val (.int (0 : Int32)), .val (.int (4 : Int32)), .unset, .unset] [(.int (4 : Int32))])) rfl (hb hby d7_58) rfl (by decide) (cap := 4) (by decide) (by decide) (by decide) (by decide)
  obtain ⟨b11, g11⟩ : ∃ z, z = h0.size := ⟨_, rfl⟩
  rw [← g11] at A11 st11
  have ne12 : va ≠ b11 := Nat.ne_of_lt (Nat.lt_of_lt_of_le Ea.lt (Nat.le_of_eq g11.symm))
  have ne13 : vN ≠ b11 := Nat.ne_of_lt (Nat.lt_of_lt_of_le VN.lt (Nat.le_of_eq g11.symm))
  have c14 : Exa Z h11 va "com/example/causeline/causeline/core/Filing" := Ea.ext E11
  have c15 : Fld Z h11 va "com/example/causeline/causeline/core/Filing" "numbers" "[J" (.ref vN) := Fn.ext E11
  have c16 : Fld Z h11 va "com/example/causeline/causeline/core/Filing" "orders" "[J" (.ref vN) := Fo.ext E11
  have c17 : Fld Z h11 va "com/example/causeline/causeline/core/Filing" "first" "I" (.int (0 : Int32)) := Ff.ext E11
  have c18 : Fld Z h11 va "com/example/causeline/causeline/core/Filing" "end" "I" (.int (0 : Int32)) := Fe.ext E11
  have c19 : Arv Z h11 vN kN .long (0 : Int32) [] (.long (0 : Int64)) := VN.ext E11
  have g_b11 : n0 ≤ b11 := Nat.le_trans Z0 (Nat.le_of_eq g11.symm)
  have sz_b11 : h0.size ≤ b11 := Nat.le_trans (Keep.refl h0 [va]).1 (Nat.le_of_eq g11.symm)
  have Z11 : n0 ≤ h11.size := Nat.le_trans Z0 E11.1
  have K11 : Keep h0 h11 [va] := (Keep.refl h0 [va]).ext E11
  have V11 : Arv Z h11 b11 k11 .long (4 : Int32) [(.long (0 : Int64)), (.long (0 : Int64)), (.long (0 : Int64)), (.long (0 : Int64))] (.long (0 : Int64)) := (Arv.new A11 (by decide)).pad (pad_rep [] (.long (0 : Int64)) 4)
  obtain ⟨T20, X20, e20, st20⟩ := getF X11 hx hZ hown (host := "") (Or.inl (hw _ (List.mem_of_getElem? (i := 32) rfl))) Via.refl e11 c16 (g := (mkF m 63 #[.val (.ref va), .val (.int (0 : Int32)), .val (.int (4 : Int32)), .val (.ref b11), .unset] [(.ref va), (.int (4 : Int32))])) rfl rfl (hb hby d7_63)
  obtain ⟨cl21, Ar21, q21, S21, NN21, HH21, GG21⟩ := id c19
  obtain ⟨T22, h22, k22, X22, e22, E22, A22, st22⟩ := newP X20 hx hZ (hw _ (List.mem_of_getElem? (i := 0) rfl)) e20 (g := (mkF m 78 #[.val (.ref va), .val (.int (0 : Int32)), .val (.int (4 : Int32)), .val (.ref b11), .unset] [(.int (4 : Int32))])) rfl (hb hby d7_78) rfl (by decide) (cap := 4) (by decide) (by decide) (by decide) (by decide)
  obtain ⟨b22, g22⟩ : ∃ z, z = h11.size := ⟨_, rfl⟩
  rw [← g22] at A22 st22
  have ne23 : va ≠ b22 := Nat.ne_of_lt (Nat.lt_of_lt_of_le c14.lt (Nat.le_of_eq g22.symm))
  have ne24 : vN ≠ b22 := Nat.ne_of_lt (Nat.lt_of_lt_of_le c19.lt (Nat.le_of_eq g22.symm))
  have ne25 : b11 ≠ b22 := Nat.ne_of_lt (Nat.lt_of_lt_of_le V11.lt (Nat.le_of_eq g22.symm))
  have c26 : Exa Z h22 va "com/example/causeline/causeline/core/Filing" := c14.ext E22
  have c27 : Fld Z h22 va "com/example/causeline/causeline/core/Filing" "numbers" "[J" (.ref vN) := c15.ext E22
  have c28 : Fld Z h22 va "com/example/causeline/causeline/core/Filing" "orders" "[J" (.ref vN) := c16.ext E22
  have c29 : Fld Z h22 va "com/example/causeline/causeline/core/Filing" "first" "I" (.int (0 : Int32)) := c17.ext E22
  have c30 : Fld Z h22 va "com/example/causeline/causeline/core/Filing" "end" "I" (.int (0 : Int32)) := c18.ext E22
  have c31 : Arv Z h22 vN kN .long (0 : Int32) [] (.long (0 : Int64)) := c19.ext E22
  have c32 : Arv Z h22 b11 k11 .long (4 : Int32) [(.long (0 : Int64)), (.long (0 : Int64)), (.long (0 : Int64)), (.long (0 : Int64))] (.long (0 : Int64)) := V11.ext E22
  have g_b22 : n0 ≤ b22 := Nat.le_trans Z11 (Nat.le_of_eq g22.symm)
  have sz_b22 : h0.size ≤ b22 := Nat.le_trans K11.1 (Nat.le_of_eq g22.symm)
  have Z22 : n0 ≤ h22.size := Nat.le_trans Z11 E22.1
  have K22 : Keep h0 h22 [va] := K11.ext E22
  have V22 : Arv Z h22 b22 k22 .long (4 : Int32) [(.long (0 : Int64)), (.long (0 : Int64)), (.long (0 : Int64)), (.long (0 : Int64))] (.long (0 : Int64)) := (Arv.new A22 (by decide)).pad (pad_rep [] (.long (0 : Int64)) 4)
  obtain ⟨T33, X33, e33, st33⟩ := getF X22 hx hZ hown (host := "") (Or.inl (hw _ (List.mem_of_getElem? (i := 30) rfl))) Via.refl e22 c27 (g := (mkF m 83 #[.val (.ref va), .val (.int (0 : Int32)), .val (.int (4 : Int32)), .val (.ref b11), .val (.ref b22)] [(.ref va)])) rfl rfl (hb hby d7_83)
  obtain ⟨T34, X34, e34, st34⟩ := getF X33 hx hZ hown (host := "") (Or.inl (hw _ (List.mem_of_getElem? (i := 72) rfl))) Via.refl e33 c29 (g := (mkF m 87 #[.val (.ref va), .val (.int (0 : Int32)), .val (.int (4 : Int32)), .val (.ref b11), .val (.ref b22)] [(.ref va), (.ref vN)])) rfl rfl (hb hby d7_87)
  obtain ⟨T35, h35, L35, X35, e35, N35, K35q, V35, st35⟩ := cpA X34 hx hZ hown (hw _ (List.mem_of_getElem? (i := 78) rfl)) (hw _ (List.mem_of_getElem? (i := 81) rfl)) (hw _ (List.mem_of_getElem? (i := 79) rfl)) (hw _ (List.mem_of_getElem? (i := 80) rfl)) e34 c31 c32 (Or.inl ⟨rfl, rfl⟩) (sp := (0 : Int32)) (dp := (0 : Int32)) (nn := (0 : Int32)) (by decide) (by decide) (by decide) (by decide) (by decide) (us := []) rfl (Nat.le_of_ble_eq_true rfl) N7 g_b11 (g := (mkF m 93 #[.val (.ref va), .val (.int (0 : Int32)), .val (.int (4 : Int32)), .val (.ref b11), .val (.ref b22)] [(.int (0 : Int32)), (.int (0 : Int32)), (.ref b11), (.int (0 : Int32)), (.ref vN)])) rfl (by rw [hml]; rfl) rfl (hb hby d7_93) (by decide) (W := 0) (by show 2 * 0 + _ ≤ _; exact Nat.le_of_eq rfl) (by decide)
  have V35' : Arv Z h35 b11 k11 .long (4 : Int32) [(.long (0 : Int64)), (.long (0 : Int64)), (.long (0 : Int64)), (.long (0 : Int64))] (.long (0 : Int64)) := V35
  have Z35 : n0 ≤ h35.size := Nat.le_trans Z22 K35q.1
  have c36 : Exa Z h35 va "com/example/causeline/causeline/core/Filing" := c26.keep K35q
  have c37 : Fld Z h35 va "com/example/causeline/causeline/core/Filing" "numbers" "[J" (.ref vN) := c27.keep K35q (ninS ne12 nin0)
  have c38 : Fld Z h35 va "com/example/causeline/causeline/core/Filing" "orders" "[J" (.ref vN) := c28.keep K35q (ninS ne12 nin0)
  have c39 : Fld Z h35 va "com/example/causeline/causeline/core/Filing" "first" "I" (.int (0 : Int32)) := c29.keep K35q (ninS ne12 nin0)
  have c40 : Fld Z h35 va "com/example/causeline/causeline/core/Filing" "end" "I" (.int (0 : Int32)) := c30.keep K35q (ninS ne12 nin0)
  have c41 : Arv Z h35 vN kN .long (0 : Int32) [] (.long (0 : Int64)) := c31.keep K35q (ninS ne13 nin0)
  have c42 : Arv Z h35 b22 k22 .long (4 : Int32) [(.long (0 : Int64)), (.long (0 : Int64)), (.long (0 : Int64)), (.long (0 : Int64))] (.long (0 : Int64)) := V22.keep K35q (ninS (Ne.symm ne25) nin0)
  have K35 : Keep h0 h35 [va] := K22.trans K35q (allS (Or.inr sz_b11) all0)
  obtain ⟨T43, X43, e43, st43⟩ := getF X35 hx hZ hown (host := "") (Or.inl (hw _ (List.mem_of_getElem? (i := 32) rfl))) Via.refl e35 c38 (g := (mkF m 97 #[.val (.ref va), .val (.int (0 : Int32)), .val (.int (4 : Int32)), .val (.ref b11), .val (.ref b22)] [(.ref va)])) rfl rfl (hb hby d7_97)
  obtain ⟨T44, X44, e44, st44⟩ := getF X43 hx hZ hown (host := "") (Or.inl (hw _ (List.mem_of_getElem? (i := 72) rfl))) Via.refl e43 c39 (g := (mkF m 101 #[.val (.ref va), .val (.int (0 : Int32)), .val (.int (4 : Int32)), .val (.ref b11), .val (.ref b22)] [(.ref va), (.ref vN)])) rfl rfl (hb hby d7_101)
  obtain ⟨T45, h45, L45, X45, e45, N45, K45q, V45, st45⟩ := cpA X44 hx hZ hown (hw _ (List.mem_of_getElem? (i := 78) rfl)) (hw _ (List.mem_of_getElem? (i := 81) rfl)) (hw _ (List.mem_of_getElem? (i := 79) rfl)) (hw _ (List.mem_of_getElem? (i := 80) rfl)) e44 c41 c42 (Or.inl ⟨rfl, rfl⟩) (sp := (0 : Int32)) (dp := (0 : Int32)) (nn := (0 : Int32)) (by decide) (by decide) (by decide) (by decide) (by decide) (us := []) rfl (Nat.le_of_ble_eq_true rfl) N35 g_b22 (g := (mkF m 108 #[.val (.ref va), .val (.int (0 : Int32)), .val (.int (4 : Int32)), .val (.ref b11), .val (.ref b22)] [(.int (0 : Int32)), (.int (0 : Int32)), (.ref b22), (.int (0 : Int32)), (.ref vN)])) rfl (by rw [hml]; rfl) rfl (hb hby d7_108) (by decide) (W := 0) (by show 2 * 0 + _ ≤ _; exact Nat.le_of_eq rfl) (by decide)
  have V45' : Arv Z h45 b22 k22 .long (4 : Int32) [(.long (0 : Int64)), (.long (0 : Int64)), (.long (0 : Int64)), (.long (0 : Int64))] (.long (0 : Int64)) := V45
  have Z45 : n0 ≤ h45.size := Nat.le_trans Z35 K45q.1
  have c46 : Exa Z h45 va "com/example/causeline/causeline/core/Filing" := c36.keep K45q
  have c47 : Fld Z h45 va "com/example/causeline/causeline/core/Filing" "numbers" "[J" (.ref vN) := c37.keep K45q (ninS ne23 nin0)
  have c48 : Fld Z h45 va "com/example/causeline/causeline/core/Filing" "orders" "[J" (.ref vN) := c38.keep K45q (ninS ne23 nin0)
  have c49 : Fld Z h45 va "com/example/causeline/causeline/core/Filing" "first" "I" (.int (0 : Int32)) := c39.keep K45q (ninS ne23 nin0)
  have c50 : Fld Z h45 va "com/example/causeline/causeline/core/Filing" "end" "I" (.int (0 : Int32)) := c40.keep K45q (ninS ne23 nin0)
  have c51 : Arv Z h45 vN kN .long (0 : Int32) [] (.long (0 : Int64)) := c41.keep K45q (ninS ne24 nin0)
  have c52 : Arv Z h45 b11 k11 .long (4 : Int32) [(.long (0 : Int64)), (.long (0 : Int64)), (.long (0 : Int64)), (.long (0 : Int64))] (.long (0 : Int64)) := V35'.keep K45q (ninS ne25 nin0)
  have K45 : Keep h0 h45 [va] := K35.trans K45q (allS (Or.inr sz_b22) all0)
  obtain ⟨T53, h53, X53, e53, W53, st53⟩ := putF X45 hx hZ hown (host := "") (Or.inl (hw _ (List.mem_of_getElem? (i := 30) rfl))) Via.refl e45 c47 c46 (Or.inl (hw _ (List.mem_of_getElem? (i := 31) rfl))) (hw _ (List.mem_of_getElem? (i := 6) rfl)) (ty := (.array .long)) (by decide) rfl rfl (g := (mkF m 113 #[.val (.ref va), .val (.int (0 : Int32)), .val (.int (4 : Int32)), .val (.ref b11), .val (.ref b22)] [(.ref b11), (.ref va)])) rfl rfl (hb hby d7_113)
  have Fw53 : Fld Z h53 va "com/example/causeline/causeline/core/Filing" "numbers" "[J" (.ref b11) := c47.same W53
  have c54 : Exa Z h53 va "com/example/causeline/causeline/core/Filing" := c46.wr W53
  have c55 : Fld Z h53 va "com/example/causeline/causeline/core/Filing" "orders" "[J" (.ref vN) := c48.other W53 (Or.inr (slot_ne (Or.inl (hw _ (List.mem_of_getElem? (i := 33) rfl))) (Or.inl (hw _ (List.mem_of_getElem? (i := 31) rfl))) (by decide) (t := (.array .long)) (t' := (.array .long)) (by decide) (by decide)))
  have c56 : Fld Z h53 va "com/example/causeline/causeline/core/Filing" "first" "I" (.int (0 : Int32)) := c49.other W53 (Or.inr (slot_ne (Or.inl (hw _ (List.mem_of_getElem? (i := 73) rfl))) (Or.inl (hw _ (List.mem_of_getElem? (i := 31) rfl))) (by decide) (t := .int) (t' := (.array .long)) (by decide) (by decide)))
  have c57 : Fld Z h53 va "com/example/causeline/causeline/core/Filing" "end" "I" (.int (0 : Int32)) := c50.other W53 (Or.inr (slot_ne (Or.inl (hw _ (List.mem_of_getElem? (i := 67) rfl))) (Or.inl (hw _ (List.mem_of_getElem? (i := 31) rfl))) (by decide) (t := .int) (t' := (.array .long)) (by decide) (by decide)))
  have c58 : Arv Z h53 vN kN .long (0 : Int32) [] (.long (0 : Int64)) := c51.other W53 (Ne.symm naN)
  have c59 : Arv Z h53 b11 k11 .long (4 : Int32) [(.long (0 : Int64)), (.long (0 : Int64)), (.long (0 : Int64)), (.long (0 : Int64))] (.long (0 : Int64)) := c52.other W53 (Ne.symm ne12)
  have c60 : Arv Z h53 b22 k22 .long (4 : Int32) [(.long (0 : Int64)), (.long (0 : Int64)), (.long (0 : Int64)), (.long (0 : Int64))] (.long (0 : Int64)) := V45'.other W53 (Ne.symm ne23)
  have Z53 : n0 ≤ h53.size := Nat.le_trans Z45 (Keep.of_wr W53).1
  have N53 := Fr.snoc X53 N45 g_va
  have K53 : Keep h0 h53 [va] := K45.wr W53 (Or.inl (List.mem_of_getElem? (i := 0) rfl))
  obtain ⟨T61, h61, X61, e61, W61, st61⟩ := putF X53 hx hZ hown (host := "") (Or.inl (hw _ (List.mem_of_getElem? (i := 32) rfl))) Via.refl e53 c55 c54 (Or.inl (hw _ (List.mem_of_getElem? (i := 33) rfl))) (hw _ (List.mem_of_getElem? (i := 6) rfl)) (ty := (.array .long)) (by decide) rfl rfl (g := (mkF m 119 #[.val (.ref va), .val (.int (0 : Int32)), .val (.int (4 : Int32)), .val (.ref b11), .val (.ref b22)] [(.ref b22), (.ref va)])) rfl rfl (hb hby d7_119)
  have Fw61 : Fld Z h61 va "com/example/causeline/causeline/core/Filing" "orders" "[J" (.ref b22) := c55.same W61
  have c62 : Exa Z h61 va "com/example/causeline/causeline/core/Filing" := c54.wr W61
  have c63 : Fld Z h61 va "com/example/causeline/causeline/core/Filing" "numbers" "[J" (.ref b11) := Fw53.other W61 (Or.inr (slot_ne (Or.inl (hw _ (List.mem_of_getElem? (i := 31) rfl))) (Or.inl (hw _ (List.mem_of_getElem? (i := 33) rfl))) (by decide) (t := (.array .long)) (t' := (.array .long)) (by decide) (by decide)))
  have c64 : Fld Z h61 va "com/example/causeline/causeline/core/Filing" "first" "I" (.int (0 : Int32)) := c56.other W61 (Or.inr (slot_ne (Or.inl (hw _ (List.mem_of_getElem? (i := 73) rfl))) (Or.inl (hw _ (List.mem_of_getElem? (i := 33) rfl))) (by decide) (t := .int) (t' := (.array .long)) (by decide) (by decide)))
  have c65 : Fld Z h61 va "com/example/causeline/causeline/core/Filing" "end" "I" (.int (0 : Int32)) := c57.other W61 (Or.inr (slot_ne (Or.inl (hw _ (List.mem_of_getElem? (i := 67) rfl))) (Or.inl (hw _ (List.mem_of_getElem? (i := 33) rfl))) (by decide) (t := .int) (t' := (.array .long)) (by decide) (by decide)))
  have c66 : Arv Z h61 vN kN .long (0 : Int32) [] (.long (0 : Int64)) := c58.other W61 (Ne.symm naN)
  have c67 : Arv Z h61 b11 k11 .long (4 : Int32) [(.long (0 : Int64)), (.long (0 : Int64)), (.long (0 : Int64)), (.long (0 : Int64))] (.long (0 : Int64)) := c59.other W61 (Ne.symm ne12)
  have c68 : Arv Z h61 b22 k22 .long (4 : Int32) [(.long (0 : Int64)), (.long (0 : Int64)), (.long (0 : Int64)), (.long (0 : Int64))] (.long (0 : Int64)) := c60.other W61 (Ne.symm ne23)
  have Z61 : n0 ≤ h61.size := Nat.le_trans Z53 (Keep.of_wr W61).1
  have N61 := Fr.snoc X61 N53 g_va
  have K61 : Keep h0 h61 [va] := K53.wr W61 (Or.inl (List.mem_of_getElem? (i := 0) rfl))
  obtain ⟨T69, h69, X69, e69, W69, st69⟩ := putF X61 hx hZ hown (host := "") (Or.inl (hw _ (List.mem_of_getElem? (i := 72) rfl))) Via.refl e61 c64 c62 (Or.inl (hw _ (List.mem_of_getElem? (i := 73) rfl))) (hw _ (List.mem_of_getElem? (i := 6) rfl)) (ty := .int) (by decide) rfl rfl (g := (mkF m 124 #[.val (.ref va), .val (.int (0 : Int32)), .val (.int (4 : Int32)), .val (.ref b11), .val (.ref b22)] [(.int (0 : Int32)), (.ref va)])) rfl rfl (hb hby d7_124)
  have Fw69 : Fld Z h69 va "com/example/causeline/causeline/core/Filing" "first" "I" (.int (0 : Int32)) := c64.same W69
  have c70 : Exa Z h69 va "com/example/causeline/causeline/core/Filing" := c62.wr W69
  have c71 : Fld Z h69 va "com/example/causeline/causeline/core/Filing" "numbers" "[J" (.ref b11) := c63.other W69 (Or.inr (slot_ne (Or.inl (hw _ (List.mem_of_getElem? (i := 31) rfl))) (Or.inl (hw _ (List.mem_of_getElem? (i := 73) rfl))) (by decide) (t := (.array .long)) (t' := .int) (by decide) (by decide)))
  have c72 : Fld Z h69 va "com/example/causeline/causeline/core/Filing" "orders" "[J" (.ref b22) := Fw61.other W69 (Or.inr (slot_ne (Or.inl (hw _ (List.mem_of_getElem? (i := 33) rfl))) (Or.inl (hw _ (List.mem_of_getElem? (i := 73) rfl))) (by decide) (t := (.array .long)) (t' := .int) (by decide) (by decide)))
  have c73 : Fld Z h69 va "com/example/causeline/causeline/core/Filing" "end" "I" (.int (0 : Int32)) := c65.other W69 (Or.inr (slot_ne (Or.inl (hw _ (List.mem_of_getElem? (i := 67) rfl))) (Or.inl (hw _ (List.mem_of_getElem? (i := 73) rfl))) (by decide) (t := .int) (t' := .int) (by decide) (by decide)))
  have c74 : Arv Z h69 vN kN .long (0 : Int32) [] (.long (0 : Int64)) := c66.other W69 (Ne.symm naN)
  have c75 : Arv Z h69 b11 k11 .long (4 : Int32) [(.long (0 : Int64)), (.long (0 : Int64)), (.long (0 : Int64)), (.long (0 : Int64))] (.long (0 : Int64)) := c67.other W69 (Ne.symm ne12)
  have c76 : Arv Z h69 b22 k22 .long (4 : Int32) [(.long (0 : Int64)), (.long (0 : Int64)), (.long (0 : Int64)), (.long (0 : Int64))] (.long (0 : Int64)) := c68.other W69 (Ne.symm ne23)
  have Z69 : n0 ≤ h69.size := Nat.le_trans Z61 (Keep.of_wr W69).1
  have N69 := Fr.snoc X69 N61 g_va
  have K69 : Keep h0 h69 [va] := K61.wr W69 (Or.inl (List.mem_of_getElem? (i := 0) rfl))
  obtain ⟨T77, h77, X77, e77, W77, st77⟩ := putF X69 hx hZ hown (host := "") (Or.inl (hw _ (List.mem_of_getElem? (i := 66) rfl))) Via.refl e69 c73 c70 (Or.inl (hw _ (List.mem_of_getElem? (i := 67) rfl))) (hw _ (List.mem_of_getElem? (i := 6) rfl)) (ty := .int) (by decide) rfl rfl (g := (mkF m 129 #[.val (.ref va), .val (.int (0 : Int32)), .val (.int (4 : Int32)), .val (.ref b11), .val (.ref b22)] [(.int (0 : Int32)), (.ref va)])) rfl rfl (hb hby d7_129)
  have Fw77 : Fld Z h77 va "com/example/causeline/causeline/core/Filing" "end" "I" (.int (0 : Int32)) := c73.same W77
  have c78 : Exa Z h77 va "com/example/causeline/causeline/core/Filing" := c70.wr W77
  have c79 : Fld Z h77 va "com/example/causeline/causeline/core/Filing" "numbers" "[J" (.ref b11) := c71.other W77 (Or.inr (slot_ne (Or.inl (hw _ (List.mem_of_getElem? (i := 31) rfl))) (Or.inl (hw _ (List.mem_of_getElem? (i := 67) rfl))) (by decide) (t := (.array .long)) (t' := .int) (by decide) (by decide)))
  have c80 : Fld Z h77 va "com/example/causeline/causeline/core/Filing" "orders" "[J" (.ref b22) := c72.other W77 (Or.inr (slot_ne (Or.inl (hw _ (List.mem_of_getElem? (i := 33) rfl))) (Or.inl (hw _ (List.mem_of_getElem? (i := 67) rfl))) (by decide) (t := (.array .long)) (t' := .int) (by decide) (by decide)))
  have c81 : Fld Z h77 va "com/example/causeline/causeline/core/Filing" "first" "I" (.int (0 : Int32)) := Fw69.other W77 (Or.inr (slot_ne (Or.inl (hw _ (List.mem_of_getElem? (i := 73) rfl))) (Or.inl (hw _ (List.mem_of_getElem? (i := 67) rfl))) (by decide) (t := .int) (t' := .int) (by decide) (by decide)))
  have c82 : Arv Z h77 vN kN .long (0 : Int32) [] (.long (0 : Int64)) := c74.other W77 (Ne.symm naN)
  have c83 : Arv Z h77 b11 k11 .long (4 : Int32) [(.long (0 : Int64)), (.long (0 : Int64)), (.long (0 : Int64)), (.long (0 : Int64))] (.long (0 : Int64)) := c75.other W77 (Ne.symm ne12)
  have c84 : Arv Z h77 b22 k22 .long (4 : Int32) [(.long (0 : Int64)), (.long (0 : Int64)), (.long (0 : Int64)), (.long (0 : Int64))] (.long (0 : Int64)) := c76.other W77 (Ne.symm ne23)
  have Z77 : n0 ≤ h77.size := Nat.le_trans Z69 (Keep.of_wr W77).1
  have N77 := Fr.snoc X77 N69 g_va
  have K77 : Keep h0 h77 [va] := K69.wr W77 (Or.inl (List.mem_of_getElem? (i := 0) rfl))
  obtain ⟨fs, hr, hrun, hended, hW, hsame⟩ := X77.leave (v := none) (fun _ => rfl) (hlocks := BodyLoose.notSynchronized Bd)
  refine ⟨_, _, pre8 _ ?_, hrun, hended, _, _, rfl, ?_, ⟨_, rfl⟩, hW, hsame.mono (by decide) (by decide)⟩
  ·
    show Steps p.tables e below (T7.setTop (mkF m 40 #[.val (.ref va), .val (.int (0 : Int32)), .unset, .unset, .unset] [(.int (4 : Int32))])) _
    refine XS.istoreN X7.here hx rfl (hb hby d7_40) rfl (l' := #[.val (.ref va), .val (.int (0 : Int32)), .val (.int (4 : Int32)), .unset, .unset]) rfl ?_
    show Steps p.tables e below (T7.setTop (mkF m 41 #[.val (.ref va), .val (.int (0 : Int32)), .val (.int (4 : Int32)), .unset, .unset] [])) _
    refine XS.iloadN X7.here hx rfl (hb hby d7_41) rfl ?_
    show Steps p.tables e below (T7.setTop (mkF m 42 #[.val (.ref va), .val (.int (0 : Int32)), .val (.int (4 : Int32)), .unset, .unset] [(.int (4 : Int32))])) _
    refine XS.aloadN X7.here hx rfl (hb hby d7_42) rfl rfl ?_
    show Steps p.tables e below (T7.setTop (mkF m 43 #[.val (.ref va), .val (.int (0 : Int32)), .val (.int (4 : Int32)), .unset, .unset] [(.ref va), (.int (4 : Int32))])) _
    refine st9 _ ?_
    show Steps p.tables e below (T9.setTop (mkF m 46 #[.val (.ref va), .val (.int (0 : Int32)), .val (.int (4 : Int32)), .unset, .unset] [(.ref vN), (.int (4 : Int32))])) _
    refine X9.arraylength hx (by rw [e9]; exact Ar10.1) (State.isArrayOf_alike hZ.alike Ar10.2.1) (g := (mkF m 46 #[.val (.ref va), .val (.int (0 : Int32)), .val (.int (4 : Int32)), .unset, .unset] [(.ref vN), (.int (4 : Int32))])) rfl rfl (hb hby d7_46) _ ?_
    rw [len_of S10 NN10]
    show Steps p.tables e below (T9.setTop (mkF m 47 #[.val (.ref va), .val (.int (0 : Int32)), .val (.int (4 : Int32)), .unset, .unset] [(.int (0 : Int32)), (.int (4 : Int32))])) _
    refine XS.icmpYes X9.here hx rfl (pc0 := 47) (pc' := 57) rfl (hb hby d7_47) rfl (feq ((by decide) : ¬ ((4 : Int32) = (0 : Int32)))).2 (by decide) (by decide) ?_
    show Steps p.tables e below (T9.setTop (mkF m 57 #[.val (.ref va), .val (.int (0 : Int32)), .val (.int (4 : Int32)), .unset, .unset] [])) _
    refine XS.iloadN X9.here hx rfl (hb hby d7_57) rfl ?_
    show Steps p.tables e below (T9.setTop (mkF m 58 #[.val (.ref va), .val (.int (0 : Int32)), .val (.int (4 : Int32)), .unset, .unset] [(.int (4 : Int32))])) _
    refine st11 _ ?_
    show Steps p.tables e below (T11.setTop (mkF m 60 #[.val (.ref va), .val (.int (0 : Int32)), .val (.int (4 : Int32)), .unset, .unset] [(.ref b11)])) _
    refine XS.astoreN X11.here hx rfl (hb hby d7_60) rfl rfl (l' := #[.val (.ref va), .val (.int (0 : Int32)), .val (.int (4 : Int32)), .val (.ref b11), .unset]) rfl ?_
    show Steps p.tables e below (T11.setTop (mkF m 61 #[.val (.ref va), .val (.int (0 : Int32)), .val (.int (4 : Int32)), .val (.ref b11), .unset] [])) _
    refine XS.iloadN X11.here hx rfl (hb hby d7_61) rfl ?_
    show Steps p.tables e below (T11.setTop (mkF m 62 #[.val (.ref va), .val (.int (0 : Int32)), .val (.int (4 : Int32)), .val (.ref b11), .unset] [(.int (4 : Int32))])) _
    refine XS.aloadN X11.here hx rfl (hb hby d7_62) rfl rfl ?_
    show Steps p.tables e below (T11.setTop (mkF m 63 #[.val (.ref va), .val (.int (0 : Int32)), .val (.int (4 : Int32)), .val (.ref b11), .unset] [(.ref va), (.int (4 : Int32))])) _
    refine st20 _ ?_
    show Steps p.tables e below (T20.setTop (mkF m 66 #[.val (.ref va), .val (.int (0 : Int32)), .val (.int (4 : Int32)), .val (.ref b11), .unset] [(.ref vN), (.int (4 : Int32))])) _
    refine X20.arraylength hx (by rw [e20]; exact Ar21.1) (State.isArrayOf_alike hZ.alike Ar21.2.1) (g := (mkF m 66 #[.val (.ref va), .val (.int (0 : Int32)), .val (.int (4 : Int32)), .val (.ref b11), .unset] [(.ref vN), (.int (4 : Int32))])) rfl rfl (hb hby d7_66) _ ?_
    rw [len_of S21 NN21]
    show Steps p.tables e below (T20.setTop (mkF m 67 #[.val (.ref va), .val (.int (0 : Int32)), .val (.int (4 : Int32)), .val (.ref b11), .unset] [(.int (0 : Int32)), (.int (4 : Int32))])) _
    refine XS.icmpYes X20.here hx rfl (pc0 := 67) (pc' := 77) rfl (hb hby d7_67) rfl (feq ((by decide) : ¬ ((4 : Int32) = (0 : Int32)))).2 (by decide) (by decide) ?_
    show Steps p.tables e below (T20.setTop (mkF m 77 #[.val (.ref va), .val (.int (0 : Int32)), .val (.int (4 : Int32)), .val (.ref b11), .unset] [])) _
    refine XS.iloadN X20.here hx rfl (hb hby d7_77) rfl ?_
    show Steps p.tables e below (T20.setTop (mkF m 78 #[.val (.ref va), .val (.int (0 : Int32)), .val (.int (4 : Int32)), .val (.ref b11), .unset] [(.int (4 : Int32))])) _
    refine st22 _ ?_
    show Steps p.tables e below (T22.setTop (mkF m 80 #[.val (.ref va), .val (.int (0 : Int32)), .val (.int (4 : Int32)), .val (.ref b11), .unset] [(.ref b22)])) _
    refine XS.astore X22.here hx rfl (hb hby d7_80) rfl rfl (l' := #[.val (.ref va), .val (.int (0 : Int32)), .val (.int (4 : Int32)), .val (.ref b11), .val (.ref b22)]) rfl ?_
    show Steps p.tables e below (T22.setTop (mkF m 82 #[.val (.ref va), .val (.int (0 : Int32)), .val (.int (4 : Int32)), .val (.ref b11), .val (.ref b22)] [])) _
    refine XS.aloadN X22.here hx rfl (hb hby d7_82) rfl rfl ?_
    show Steps p.tables e below (T22.setTop (mkF m 83 #[.val (.ref va), .val (.int (0 : Int32)), .val (.int (4 : Int32)), .val (.ref b11), .val (.ref b22)] [(.ref va)])) _
    refine st33 _ ?_
    show Steps p.tables e below (T33.setTop (mkF m 86 #[.val (.ref va), .val (.int (0 : Int32)), .val (.int (4 : Int32)), .val (.ref b11), .val (.ref b22)] [(.ref vN)])) _
    refine XS.aloadN X33.here hx rfl (hb hby d7_86) rfl rfl ?_
    show Steps p.tables e below (T33.setTop (mkF m 87 #[.val (.ref va), .val (.int (0 : Int32)), .val (.int (4 : Int32)), .val (.ref b11), .val (.ref b22)] [(.ref va), (.ref vN)])) _
    refine st34 _ ?_
    show Steps p.tables e below (T34.setTop (mkF m 90 #[.val (.ref va), .val (.int (0 : Int32)), .val (.int (4 : Int32)), .val (.ref b11), .val (.ref b22)] [(.int (0 : Int32)), (.ref vN)])) _
    refine XS.aloadN X34.here hx rfl (hb hby d7_90) rfl rfl ?_
    show Steps p.tables e below (T34.setTop (mkF m 91 #[.val (.ref va), .val (.int (0 : Int32)), .val (.int (4 : Int32)), .val (.ref b11), .val (.ref b22)] [(.ref b11), (.int (0 : Int32)), (.ref vN)])) _
    refine XS.iconst X34.here hx rfl (hb hby d7_91) ?_
    show Steps p.tables e below (T34.setTop (mkF m 92 #[.val (.ref va), .val (.int (0 : Int32)), .val (.int (4 : Int32)), .val (.ref b11), .val (.ref b22)] [(.int (0 : Int32)), (.ref b11), (.int (0 : Int32)), (.ref vN)])) _
    refine XS.iloadN X34.here hx rfl (hb hby d7_92) rfl ?_
    show Steps p.tables e below (T34.setTop (mkF m 93 #[.val (.ref va), .val (.int (0 : Int32)), .val (.int (4 : Int32)), .val (.ref b11), .val (.ref b22)] [(.int (0 : Int32)), (.int (0 : Int32)), (.ref b11), (.int (0 : Int32)), (.ref vN)])) _
    refine st35 _ ?_
    show Steps p.tables e below (T35.setTop (mkF m 96 #[.val (.ref va), .val (.int (0 : Int32)), .val (.int (4 : Int32)), .val (.ref b11), .val (.ref b22)] [])) _
    refine XS.aloadN X35.here hx rfl (hb hby d7_96) rfl rfl ?_
    show Steps p.tables e below (T35.setTop (mkF m 97 #[.val (.ref va), .val (.int (0 : Int32)), .val (.int (4 : Int32)), .val (.ref b11), .val (.ref b22)] [(.ref va)])) _
    refine st43 _ ?_
    show Steps p.tables e below (T43.setTop (mkF m 100 #[.val (.ref va), .val (.int (0 : Int32)), .val (.int (4 : Int32)), .val (.ref b11), .val (.ref b22)] [(.ref vN)])) _
    refine XS.aloadN X43.here hx rfl (hb hby d7_100) rfl rfl ?_
    show Steps p.tables e below (T43.setTop (mkF m 101 #[.val (.ref va), .val (.int (0 : Int32)), .val (.int (4 : Int32)), .val (.ref b11), .val (.ref b22)] [(.ref va), (.ref vN)])) _
    refine st44 _ ?_
    show Steps p.tables e below (T44.setTop (mkF m 104 #[.val (.ref va), .val (.int (0 : Int32)), .val (.int (4 : Int32)), .val (.ref b11), .val (.ref b22)] [(.int (0 : Int32)), (.ref vN)])) _
    refine XS.aload X44.here hx rfl (hb hby d7_104) rfl rfl ?_
    show Steps p.tables e below (T44.setTop (mkF m 106 #[.val (.ref va), .val (.int (0 : Int32)), .val (.int (4 : Int32)), .val (.ref b11), .val (.ref b22)] [(.ref b22), (.int (0 : Int32)), (.ref vN)])) _
    refine XS.iconst X44.here hx rfl (hb hby d7_106) ?_
    show Steps p.tables e below (T44.setTop (mkF m 107 #[.val (.ref va), .val (.int (0 : Int32)), .val (.int (4 : Int32)), .val (.ref b11), .val (.ref b22)] [(.int (0 : Int32)), (.ref b22), (.int (0 : Int32)), (.ref vN)])) _
    refine XS.iloadN X44.here hx rfl (hb hby d7_107) rfl ?_
    show Steps p.tables e below (T44.setTop (mkF m 108 #[.val (.ref va), .val (.int (0 : Int32)), .val (.int (4 : Int32)), .val (.ref b11), .val (.ref b22)] [(.int (0 : Int32)), (.int (0 : Int32)), (.ref b22), (.int (0 : Int32)), (.ref vN)])) _
    refine st45 _ ?_
    show Steps p.tables e below (T45.setTop (mkF m 111 #[.val (.ref va), .val (.int (0 : Int32)), .val (.int (4 : Int32)), .val (.ref b11), .val (.ref b22)] [])) _
    refine XS.aloadN X45.here hx rfl (hb hby d7_111) rfl rfl ?_
    show Steps p.tables e below (T45.setTop (mkF m 112 #[.val (.ref va), .val (.int (0 : Int32)), .val (.int (4 : Int32)), .val (.ref b11), .val (.ref b22)] [(.ref va)])) _
    refine XS.aloadN X45.here hx rfl (hb hby d7_112) rfl rfl ?_
    show Steps p.tables e below (T45.setTop (mkF m 113 #[.val (.ref va), .val (.int (0 : Int32)), .val (.int (4 : Int32)), .val (.ref b11), .val (.ref b22)] [(.ref b11), (.ref va)])) _
    refine st53 _ ?_
    show Steps p.tables e below (T53.setTop (mkF m 116 #[.val (.ref va), .val (.int (0 : Int32)), .val (.int (4 : Int32)), .val (.ref b11), .val (.ref b22)] [])) _
    refine XS.aloadN X53.here hx rfl (hb hby d7_116) rfl rfl ?_
    show Steps p.tables e below (T53.setTop (mkF m 117 #[.val (.ref va), .val (.int (0 : Int32)), .val (.int (4 : Int32)), .val (.ref b11), .val (.ref b22)] [(.ref va)])) _
    refine XS.aload X53.here hx rfl (hb hby d7_117) rfl rfl ?_
    show Steps p.tables e below (T53.setTop (mkF m 119 #[.val (.ref va), .val (.int (0 : Int32)), .val (.int (4 : Int32)), .val (.ref b11), .val (.ref b22)] [(.ref b22), (.ref va)])) _
    refine st61 _ ?_
    show Steps p.tables e below (T61.setTop (mkF m 122 #[.val (.ref va), .val (.int (0 : Int32)), .val (.int (4 : Int32)), .val (.ref b11), .val (.ref b22)] [])) _
    refine XS.aloadN X61.here hx rfl (hb hby d7_122) rfl rfl ?_
    show Steps p.tables e below (T61.setTop (mkF m 123 #[.val (.ref va), .val (.int (0 : Int32)), .val (.int (4 : Int32)), .val (.ref b11), .val (.ref b22)] [(.ref va)])) _
    refine XS.iconst X61.here hx rfl (hb hby d7_123) ?_
    show Steps p.tables e below (T61.setTop (mkF m 124 #[.val (.ref va), .val (.int (0 : Int32)), .val (.int (4 : Int32)), .val (.ref b11), .val (.ref b22)] [(.int (0 : Int32)), (.ref va)])) _
    refine st69 _ ?_
    show Steps p.tables e below (T69.setTop (mkF m 127 #[.val (.ref va), .val (.int (0 : Int32)), .val (.int (4 : Int32)), .val (.ref b11), .val (.ref b22)] [])) _
    refine XS.aloadN X69.here hx rfl (hb hby d7_127) rfl rfl ?_
    show Steps p.tables e below (T69.setTop (mkF m 128 #[.val (.ref va), .val (.int (0 : Int32)), .val (.int (4 : Int32)), .val (.ref b11), .val (.ref b22)] [(.ref va)])) _
    refine XS.iloadN X69.here hx rfl (hb hby d7_128) rfl ?_
    show Steps p.tables e below (T69.setTop (mkF m 129 #[.val (.ref va), .val (.int (0 : Int32)), .val (.int (4 : Int32)), .val (.ref b11), .val (.ref b22)] [(.int (0 : Int32)), (.ref va)])) _
    refine st77 _ ?_
    show Steps p.tables e below (T77.setTop (mkF m 132 #[.val (.ref va), .val (.int (0 : Int32)), .val (.int (4 : Int32)), .val (.ref b11), .val (.ref b22)] [])) _
    exact X77.returnOut hx Bd.returns (hb hby d7_132) hr
  ·
    show Q7 Z va vN kN h0 n0 _ T77.heap _
    rw [e77]
    exact ⟨rfl, N77, K77, b11, _, b22, _, sz_b11, sz_b22, g_b11, g_b22, ne25, c78, c79, c80, c81, Fw77, c83, c84⟩
theorem d6_0 : decode prog_36_method_2_code 0 = .ok (.aload_n 0, 1) := by decide +kernel
theorem d6_1 : decode prog_36_method_2_code 1 = .ok (.getfield 23, 3) := by decide +kernel
theorem d6_4 : decode prog_36_method_2_code 4 = .ok (.aload_n 0, 1) := by decide +kernel
theorem d6_5 : decode prog_36_method_2_code 5 = .ok (.getfield 16, 3) := by decide +kernel
theorem d6_8 : decode prog_36_method_2_code 8 = .ok (.arraylength, 1) := by decide +kernel
theorem d6_9 : decode prog_36_method_2_code 9 = .ok (.if_icmp .ne 7, 3) := by decide +kernel
theorem d6_12 : decode prog_36_method_2_code 12 = .ok (.aload_n 0, 1) := by decide +kernel
theorem pd_1 : parseMethodDescriptor "()V" = some ⟨[], none⟩ := by decide +kernel
theorem d6_13 : decode prog_36_method_2_code 13 = .ok (.invokevirtual 27, 3) := by decide +kernel
theorem d6_16 : decode prog_36_method_2_code 16 = .ok (.aload_n 0, 1) := by decide +kernel
theorem d6_17 : decode prog_36_method_2_code 17 = .ok (.getfield 30, 3) := by decide +kernel
theorem d6_20 : decode prog_36_method_2_code 20 = .ok (.aload_n 0, 1) := by decide +kernel
theorem d6_21 : decode prog_36_method_2_code 21 = .ok (.getfield 23, 3) := by decide +kernel
theorem d6_24 : decode prog_36_method_2_code 24 = .ok (.if_icmp .ge 27, 3) := by decide +kernel
theorem d6_51 : decode prog_36_method_2_code 51 = .ok (.aload_n 0, 1) := by decide +kernel
theorem d6_52 : decode prog_36_method_2_code 52 = .ok (.getfield 23, 3) := by decide +kernel
theorem d6_55 : decode prog_36_method_2_code 55 = .ok (.istore 4, 2) := by decide +kernel
theorem d6_57 : decode prog_36_method_2_code 57 = .ok (.aload_n 0, 1) := by decide +kernel
theorem d6_58 : decode prog_36_method_2_code 58 = .ok (.getfield 13, 3) := by decide +kernel
theorem d6_61 : decode prog_36_method_2_code 61 = .ok (.iload 4, 2) := by decide +kernel
theorem d6_63 : decode prog_36_method_2_code 63 = .ok (.aload_n 0, 1) := by decide +kernel
theorem d6_64 : decode prog_36_method_2_code 64 = .ok (.getfield 13, 3) := by decide +kernel
theorem d6_67 : decode prog_36_method_2_code 67 = .ok (.iload 4, 2) := by decide +kernel
theorem d6_69 : decode prog_36_method_2_code 69 = .ok (.iconst 1, 1) := by decide +kernel
theorem d6_70 : decode prog_36_method_2_code 70 = .ok (.iadd, 1) := by decide +kernel
theorem d6_71 : decode prog_36_method_2_code 71 = .ok (.aload_n 0, 1) := by decide +kernel
theorem d6_72 : decode prog_36_method_2_code 72 = .ok (.getfield 23, 3) := by decide +kernel
theorem d6_75 : decode prog_36_method_2_code 75 = .ok (.iload 4, 2) := by decide +kernel
theorem d6_77 : decode prog_36_method_2_code 77 = .ok (.isub, 1) := by decide +kernel
theorem d6_78 : decode prog_36_method_2_code 78 = .ok (.invokestatic 37, 3) := by decide +kernel
theorem d6_81 : decode prog_36_method_2_code 81 = .ok (.aload_n 0, 1) := by decide +kernel
theorem d6_82 : decode prog_36_method_2_code 82 = .ok (.getfield 16, 3) := by decide +kernel
theorem d6_85 : decode prog_36_method_2_code 85 = .ok (.iload 4, 2) := by decide +kernel
theorem d6_87 : decode prog_36_method_2_code 87 = .ok (.aload_n 0, 1) := by decide +kernel
theorem d6_88 : decode prog_36_method_2_code 88 = .ok (.getfield 16, 3) := by decide +kernel
theorem d6_91 : decode prog_36_method_2_code 91 = .ok (.iload 4, 2) := by decide +kernel
theorem d6_93 : decode prog_36_method_2_code 93 = .ok (.iconst 1, 1) := by decide +kernel
theorem d6_94 : decode prog_36_method_2_code 94 = .ok (.iadd, 1) := by decide +kernel
theorem d6_95 : decode prog_36_method_2_code 95 = .ok (.aload_n 0, 1) := by decide +kernel
theorem d6_96 : decode prog_36_method_2_code 96 = .ok (.getfield 23, 3) := by decide +kernel
theorem d6_99 : decode prog_36_method_2_code 99 = .ok (.iload 4, 2) := by decide +kernel
theorem d6_101 : decode prog_36_method_2_code 101 = .ok (.isub, 1) := by decide +kernel
theorem d6_102 : decode prog_36_method_2_code 102 = .ok (.invokestatic 37, 3) := by decide +kernel
theorem d6_105 : decode prog_36_method_2_code 105 = .ok (.aload_n 0, 1) := by decide +kernel
theorem d6_106 : decode prog_36_method_2_code 106 = .ok (.getfield 13, 3) := by decide +kernel
theorem d6_109 : decode prog_36_method_2_code 109 = .ok (.iload 4, 2) := by decide +kernel
theorem d6_111 : decode prog_36_method_2_code 111 = .ok (.lload_n 1, 1) := by decide +kernel
theorem d6_112 : decode prog_36_method_2_code 112 = .ok (.lastore, 1) := by decide +kernel
theorem d6_113 : decode prog_36_method_2_code 113 = .ok (.aload_n 0, 1) := by decide +kernel
theorem d6_114 : decode prog_36_method_2_code 114 = .ok (.getfield 16, 3) := by decide +kernel
theorem d6_117 : decode prog_36_method_2_code 117 = .ok (.iload 4, 2) := by decide +kernel
theorem d6_119 : decode prog_36_method_2_code 119 = .ok (.aload_n 3, 1) := by decide +kernel
theorem d6_120 : decode prog_36_method_2_code 120 = .ok (.getfield 43, 3) := by decide +kernel
theorem d6_123 : decode prog_36_method_2_code 123 = .ok (.lastore, 1) := by decide +kernel
theorem d6_124 : decode prog_36_method_2_code 124 = .ok (.aload_n 0, 1) := by decide +kernel
theorem d6_125 : decode prog_36_method_2_code 125 = .ok (.dup, 1) := by decide +kernel
theorem d6_126 : decode prog_36_method_2_code 126 = .ok (.getfield 23, 3) := by decide +kernel
theorem d6_129 : decode prog_36_method_2_code 129 = .ok (.iconst 1, 1) := by decide +kernel
theorem d6_130 : decode prog_36_method_2_code 130 = .ok (.iadd, 1) := by decide +kernel
theorem d6_131 : decode prog_36_method_2_code 131 = .ok (.putfield 23, 3) := by decide +kernel
theorem d6_134 : decode prog_36_method_2_code 134 = .ok (.return_, 1) := by decide +kernel
theorem ef_rmAdd0 (m : MethodId) (x0 : Addr) (x1 : Int64) (x2 : Addr) : entryFrame m #[(.ref x0), (.long x1), (.ref x2)] 5 = mkF m 0 #[.val (.ref x0), .val (.long x1), .second, .val (.ref x2), .unset] [] := by first | (simp [entryFrame, mkF, argsToLocals, Value.category]; done) | rfl
def QAdd0 (Z : State) (va : Addr) (vq : Int64) (vw : Addr) (vN : Addr) (kN : ClassId) (vw7 : Int64) (h0 : Heap) (n0 : Nat) (v : Option Value) (h : Heap) (L : List Loc) : Prop := v = none ∧ Fr n0 L ∧ Keep h0 h [va] ∧ ∃ (vn : Addr) (kn : ClassId) (vo : Addr) (ko : ClassId), h0.size ≤ vn ∧ h0.size ≤ vo ∧ n0 ≤ vn ∧ n0 ≤ vo ∧ vn ≠ vo ∧ Exa Z h va "com/example/causeline/causeline/core/Filing" ∧ Fld Z h va "com/example/causeline/causeline/core/Filing" "numbers" "[J" (.ref vn) ∧ Fld Z h va "com/example/causeline/causeline/core/Filing" "orders" "[J" (.ref vo) ∧ Fld Z h va "com/example/causeline/causeline/core/Filing" "first" "I" (.int (0 : Int32)) ∧ Fld Z h va "com/example/causeline/causeline/core/Filing" "end" "I" (.int (1 : Int32)) ∧ Arv Z h vn kn .long (4 : Int32) [(.long vq), (.long (0 : Int64)), (.long (0 : Int64)), (.long (0 : Int64))] (.long (0 : Int64)) ∧ Arv Z h vo ko .long (4 : Int32) [(.long vw7), (.long (0 : Int64)), (.long (0 : Int64)), (.long (0 : Int64))] (.long (0 : Int64))
set_option maxRecDepth 65536 in
set_option maxHeartbeats 40000000 in
theorem rmAdd0 (l : Launch) (Z : State) (a0 : Array Value) (hw : ∀ d ∈ tables_1, d.before a0 Z = true) (ws : List Jvm.Cond) (va : Addr) (vq : Int64) (vw : Addr) (vN : Addr) (kN : ClassId) (vw7 : Int64) (h0 : Heap) (n0 : Nat) (Z0 : n0 ≤ h0.size) (Ea : Exa Z h0 va "com/example/causeline/causeline/core/Filing") (Fn : Fld Z h0 va "com/example/causeline/causeline/core/Filing" "numbers" "[J" (.ref vN)) (Fo : Fld Z h0 va "com/example/causeline/causeline/core/Filing" "orders" "[J" (.ref vN)) (Ff : Fld Z h0 va "com/example/causeline/causeline/core/Filing" "first" "I" (.int (0 : Int32))) (Fe : Fld Z h0 va "com/example/causeline/causeline/core/Filing" "end" "I" (.int (0 : Int32))) (VN : Arv Z h0 vN kN .long (0 : Int32) [] (.long (0 : Int64))) (Fw : Fld Z h0 vw "com/example/causeline/causeline/core/Waiting" "order" "J" (.long vw7)) (g_va : n0 ≤ va) (naN : va ≠ vN) (naw : va ≠ vw) :
    MetFree l (⟨"com/example/causeline/causeline/core/Filing", "add", "(JLcom/example/causeline/causeline/core/Waiting;)V"⟩ : MethodName) (head1 (Jvm.Cond.code (⟨"com/example/causeline/causeline/core/Filing", "add", "(JLcom/example/causeline/causeline/core/Waiting;)V"⟩ : MethodName) prog_36_method_2_code 5 none :: ws) ({ frames := 2, cells := 2, slots := 8, locals := 34 } : Room)) (fun a U => a = #[(.ref va), (.long vq), (.ref vw)] ∧ Z.Warmed39 U.vm ∧ U.heap = h0) (fun _ _ _ _ _ => True) (fun _ U o U' => ∃ v L, o = .returned v ∧ QAdd0 Z va vq vw vN kN vw7 h0 n0 v U'.heap L ∧ FrameEnd U o U' L ({ frames := 2, cells := 2, slots := 8, locals := 34 } : Room).cells ({ frames := 2, cells := 2, slots := 8, locals := 34 } : Room).slots) := by
  refine MetFree.of_bodySF (plainFor_of_name pn_48) hisR ?_
  intro p e s m args below meth c s₁ Bd hml0 hP hK
  obtain ⟨rfl, hZ, hh⟩ := hP
  have hx := Bd.exec
  have hby := Bd.bytes
  have hml : c.maxLocals = 5 := hml0
  have hown : s.vm.findClass "com/example/causeline/causeline/core/Filing" = some m.cls := findClass_of_methodNamed Bd.named
  have hnm := (name_of_methodNamed Bd.named Bd.method).1
  have X0 : Stand p l e ({ frames := 2, cells := 2, slots := 8, locals := 34 } : Room) s m #[(.ref va), (.long vq), (.ref vw)] below meth c s₁ [] 0 0 := Stand.of_body Bd
  have e0 : s₁.heap = h0 := by rw [← hh, Bd.state]; rfl
  have N0 := Fr.nil n0
  have pre0 : ∀ t, Steps p.tables e below (s₁.setTop (mkF m 0 #[.val (.ref va), .val (.long vq), .second, .val (.ref vw), .unset] [])) t → Steps p.tables e below (s₁.setTop (entryFrame m #[(.ref va), (.long vq), (.ref vw)] 5)) t := fun t k => castTop (ef_rmAdd0 m va vq vw) k
  obtain ⟨T1, X1, e1, st1⟩ := getF X0 hx hZ hown (host := "") (Or.inl (hw _ (List.mem_of_getElem? (i := 66) rfl))) Via.refl e0 Fe (g := (mkF m 1 #[.val (.ref va), .val (.long vq), .second, .val (.ref vw), .unset] [(.ref va)])) rfl rfl (hb hby d6_1)
  obtain ⟨T2, X2, e2, st2⟩ := getF X1 hx hZ hown (host := "") (Or.inl (hw _ (List.mem_of_getElem? (i := 32) rfl))) Via.refl e1 Fo (g := (mkF m 5 #[.val (.ref va), .val (.long vq), .second, .val (.ref vw), .unset] [(.ref va), (.int (0 : Int32))])) rfl rfl (hb hby d6_5)
  obtain ⟨cl3, Ar3, q3, S3, NN3, HH3, GG3⟩ := id VN
  obtain ⟨cq4, q4, q4'⟩ := Ea.cell
  obtain ⟨_, _, ⟨T4, L4, k4, n4⟩, -, X4, ⟨Lc4, hQ4, l4, y4, z4⟩, st4⟩ := X2.privateBack hx (y := (⟨"com/example/causeline/causeline/core/Filing", "makeRoom", "()V"⟩ : MethodName)) hown (mvT hZ (hw _ (List.mem_of_getElem? (i := 68) rfl))) (mvT hZ (hw _ (List.mem_of_getElem? (i := 69) rfl))) (own_selp (mvT hZ (hw _ (List.mem_of_getElem? (i := 6) rfl))) (Cond.privateMethod_at (mvP hZ (hw _ (List.mem_of_getElem? (i := 70) rfl)) (args := #[]))) (mvT hZ (hw _ (List.mem_of_getElem? (i := 69) rfl)))) (Cond.privateMethod_at (mvP hZ (hw _ (List.mem_of_getElem? (i := 70) rfl)) (args := #[]))) (mvT hZ (hw _ (List.mem_of_getElem? (i := 71) rfl))) (by decide) (backOf (W := 0) (rm7 l Z a0 hw [] va vN kN h0 n0 Z0 Ea Fn Fo Ff Fe VN g_va naN) hZ (hw _ (List.mem_of_getElem? (i := 71) rfl)) (hw _ (List.mem_of_getElem? (i := 7) rfl)) (by decide) (by decide)) (g := (mkF m 13 #[.val (.ref va), .val (.long vq), .second, .val (.ref vw), .unset] [(.ref va)])) rfl (by rw [hml]; rfl) (Steps.refl _) (a := va) (by rw [e2]; exact q4) q4' (argsL := []) (rest := []) (lenOf pd_1 rfl) rfl (by show 2 * 0 + _ ≤ _; exact Nat.le_of_eq rfl) (hb hby d6_13) (fun _ _ => ⟨rfl, e2, (by decide : 0 + 2 ≤ _), (by decide : 0 + 8 ≤ _)⟩)
  dsimp only [Pt.U, Pt.locs, Pt.cells, Pt.slots] at X4 l4 y4 z4 st4 hQ4
  obtain rfl : k4 = 2 := y4; obtain rfl : n4 = 8 := z4
  obtain ⟨rfl, N4q, K4q, ⟨vn4, kn4, vo4, ko4, szn4, szo4, gn4, go4, nno4, fm4_0, fm4_1, fm4_2, fm4_3, fm4_4, fm4_5, fm4_6⟩⟩ := hQ4
  have N4 : Fr n0 L4 := Eq.mpr (congrArg (Fr n0) l4) (Fr.app N0 N4q)
  have Z4 : n0 ≤ T4.heap.size := Nat.le_trans Z0 K4q.1
  have c5 : Exa Z T4.heap va "com/example/causeline/causeline/core/Filing" := Ea.keep K4q
  have c6 : Arv Z T4.heap vN kN .long (0 : Int32) [] (.long (0 : Int64)) := VN.keep K4q (ninS (Ne.symm naN) nin0)
  have c7 : Fld Z T4.heap vw "com/example/causeline/causeline/core/Waiting" "order" "J" (.long vw7) := Fw.keep K4q (ninS (Ne.symm naw) nin0)
  have K4 : Keep h0 T4.heap [va] := (Keep.refl h0 [va]).trans K4q (allS (Or.inl (List.mem_of_getElem? (i := 0) rfl)) all0)
  have nevn4_va : va ≠ vn4 := Nat.ne_of_lt (Nat.lt_of_lt_of_le Fe.lt szn4)
  have nevo4_va : va ≠ vo4 := Nat.ne_of_lt (Nat.lt_of_lt_of_le Fe.lt szo4)
  have nevn4_vw : vw ≠ vn4 := Nat.ne_of_lt (Nat.lt_of_lt_of_le Fw.lt szn4)
  have nevo4_vw : vw ≠ vo4 := Nat.ne_of_lt (Nat.lt_of_lt_of_le Fw.lt szo4)
  have nevn4_vN : vN ≠ vn4 := Nat.ne_of_lt (Nat.lt_of_lt_of_le VN.lt szn4)
  have nevo4_vN : vN ≠ vo4 := Nat.ne_of_lt (Nat.lt_of_lt_of_le VN.lt szo4)
  have g_vn4 := gn4
  have sz_vn4 : h0.size ≤ vn4 := Nat.le_trans (Keep.refl h0 [va]).1 szn4
  have g_vo4 := go4
  have sz_vo4 : h0.size ≤ vo4 := Nat.le_trans (Keep.refl h0 [va]).1 szo4
  obtain ⟨T8, X8, e8, st8⟩ := getF X4 hx hZ hown (host := "") (Or.inl (hw _ (List.mem_of_getElem? (i := 72) rfl))) Via.refl rfl fm4_3 (g := (mkF m 17 #[.val (.ref va), .val (.long vq), .second, .val (.ref vw), .unset] [(.ref va)])) rfl rfl (hb hby d6_17)
  obtain ⟨T9, X9, e9, st9⟩ := getF X8 hx hZ hown (host := "") (Or.inl (hw _ (List.mem_of_getElem? (i := 66) rfl))) Via.refl e8 fm4_4 (g := (mkF m 21 #[.val (.ref va), .val (.long vq), .second, .val (.ref vw), .unset] [(.ref va), (.int (0 : Int32))])) rfl rfl (hb hby d6_21)
  obtain ⟨T10, X10, e10, st10⟩ := getF X9 hx hZ hown (host := "") (Or.inl (hw _ (List.mem_of_getElem? (i := 66) rfl))) Via.refl e9 fm4_4 (g := (mkF m 52 #[.val (.ref va), .val (.long vq), .second, .val (.ref vw), .unset] [(.ref va)])) rfl rfl (hb hby d6_52)
  obtain ⟨T11, X11, e11, st11⟩ := getF X10 hx hZ hown (host := "") (Or.inl (hw _ (List.mem_of_getElem? (i := 30) rfl))) Via.refl e10 fm4_1 (g := (mkF m 58 #[.val (.ref va), .val (.long vq), .second, .val (.ref vw), .val (.int (0 : Int32))] [(.ref va)])) rfl rfl (hb hby d6_58)
  obtain ⟨T12, X12, e12, st12⟩ := getF X11 hx hZ hown (host := "") (Or.inl (hw _ (List.mem_of_getElem? (i := 30) rfl))) Via.refl e11 fm4_1 (g := (mkF m 64 #[.val (.ref va), .val (.long vq), .second, .val (.ref vw), .val (.int (0 : Int32))] [(.ref va), (.int (0 : Int32)), (.ref vn4)])) rfl rfl (hb hby d6_64)
  obtain ⟨T13, X13, e13, st13⟩ := getF X12 hx hZ hown (host := "") (Or.inl (hw _ (List.mem_of_getElem? (i := 66) rfl))) Via.refl e12 fm4_4 (g := (mkF m 72 #[.val (.ref va), .val (.long vq), .second, .val (.ref vw), .val (.int (0 : Int32))] [(.ref va), (.int (1 : Int32)), (.ref vn4), (.int (0 : Int32)), (.ref vn4)])) rfl rfl (hb hby d6_72)
  obtain ⟨T14, h14, L14, X14, e14, N14, K14q, V14, st14⟩ := cpA X13 hx hZ hown (hw _ (List.mem_of_getElem? (i := 78) rfl)) (hw _ (List.mem_of_getElem? (i := 81) rfl)) (hw _ (List.mem_of_getElem? (i := 79) rfl)) (hw _ (List.mem_of_getElem? (i := 80) rfl)) e13 fm4_5 fm4_5 (Or.inl ⟨rfl, rfl⟩) (sp := (0 : Int32)) (dp := (1 : Int32)) (nn := (0 : Int32)) (by decide) (by decide) (by decide) (by decide) (by decide) (us := []) rfl (Nat.le_of_ble_eq_true rfl) N4 g_vn4 (g := (mkF m 78 #[.val (.ref va), .val (.long vq), .second, .val (.ref vw), .val (.int (0 : Int32))] [(.int (0 : Int32)), (.int (1 : Int32)), (.ref vn4), (.int (0 : Int32)), (.ref vn4)])) rfl (by rw [hml]; rfl) rfl (hb hby d6_78) (by decide) (W := 0) (by show 2 * 0 + _ ≤ _; exact Nat.le_of_eq rfl) (by decide)
  have V14' : Arv Z h14 vn4 kn4 .long (4 : Int32) [(.long (0 : Int64)), (.long (0 : Int64)), (.long (0 : Int64)), (.long (0 : Int64))] (.long (0 : Int64)) := V14
  have Z14 : n0 ≤ h14.size := Nat.le_trans Z4 K14q.1
  have c15 : Arv Z h14 vN kN .long (0 : Int32) [] (.long (0 : Int64)) := c6.keep K14q (ninS nevn4_vN nin0)
  have c16 : Fld Z h14 vw "com/example/causeline/causeline/core/Waiting" "order" "J" (.long vw7) := c7.keep K14q (ninS nevn4_vw nin0)
  have c17 : Exa Z h14 va "com/example/causeline/causeline/core/Filing" := fm4_0.keep K14q
  have c18 : Fld Z h14 va "com/example/causeline/causeline/core/Filing" "numbers" "[J" (.ref vn4) := fm4_1.keep K14q (ninS nevn4_va nin0)
  have c19 : Fld Z h14 va "com/example/causeline/causeline/core/Filing" "orders" "[J" (.ref vo4) := fm4_2.keep K14q (ninS nevn4_va nin0)
  have c20 : Fld Z h14 va "com/example/causeline/causeline/core/Filing" "first" "I" (.int (0 : Int32)) := fm4_3.keep K14q (ninS nevn4_va nin0)
  have c21 : Fld Z h14 va "com/example/causeline/causeline/core/Filing" "end" "I" (.int (0 : Int32)) := fm4_4.keep K14q (ninS nevn4_va nin0)
  have c22 : Arv Z h14 vo4 ko4 .long (4 : Int32) [(.long (0 : Int64)), (.long (0 : Int64)), (.long (0 : Int64)), (.long (0 : Int64))] (.long (0 : Int64)) := fm4_6.keep K14q (ninS (Ne.symm nno4) nin0)
  have K14 : Keep h0 h14 [va] := K4.trans K14q (allS (Or.inr sz_vn4) all0)
  obtain ⟨T23, X23, e23, st23⟩ := getF X14 hx hZ hown (host := "") (Or.inl (hw _ (List.mem_of_getElem? (i := 32) rfl))) Via.refl e14 c19 (g := (mkF m 82 #[.val (.ref va), .val (.long vq), .second, .val (.ref vw), .val (.int (0 : Int32))] [(.ref va)])) rfl rfl (hb hby d6_82)
  obtain ⟨T24, X24, e24, st24⟩ := getF X23 hx hZ hown (host := "") (Or.inl (hw _ (List.mem_of_getElem? (i := 32) rfl))) Via.refl e23 c19 (g := (mkF m 88 #[.val (.ref va), .val (.long vq), .second, .val (.ref vw), .val (.int (0 : Int32))] [(.ref va), (.int (0 : Int32)), (.ref vo4)])) rfl rfl (hb hby d6_88)
  obtain ⟨T25, X25, e25, st25⟩ := getF X24 hx hZ hown (host := "") (Or.inl (hw _ (List.mem_of_getElem? (i := 66) rfl))) Via.refl e24 c21 (g := (mkF m 96 #[.val (.ref va), .val (.long vq), .second, .val (.ref vw), .val (.int (0 : Int32))] [(.ref va), (.int (1 : Int32)), (.ref vo4), (.int (0 : Int32)), (.ref vo4)])) rfl rfl (hb hby d6_96)
  obtain ⟨T26, h26, L26, X26, e26, N26, K26q, V26, st26⟩ := cpA X25 hx hZ hown (hw _ (List.mem_of_getElem? (i := 78) rfl)) (hw _ (List.mem_of_getElem? (i := 81) rfl)) (hw _ (List.mem_of_getElem? (i := 79) rfl)) (hw _ (List.mem_of_getElem? (i := 80) rfl)) e25 c22 c22 (Or.inl ⟨rfl, rfl⟩) (sp := (0 : Int32)) (dp := (1 : Int32)) (nn := (0 : Int32)) (by decide) (by decide) (by decide) (by decide) (by decide) (us := []) rfl (Nat.le_of_ble_eq_true rfl) N14 g_vo4 (g := (mkF m 102 #[.val (.ref va), .val (.long vq), .second, .val (.ref vw), .val (.int (0 : Int32))] [(.int (0 : Int32)), (.int (1 : Int32)), (.ref vo4), (.int (0 : Int32)), (.ref vo4)])) rfl (by rw [hml]; rfl) rfl (hb hby d6_102) (by decide) (W := 0) (by show 2 * 0 + _ ≤ _; exact Nat.le_of_eq rfl) (by decide)
  have V26' : Arv Z h26 vo4 ko4 .long (4 : Int32) [(.long (0 : Int64)), (.long (0 : Int64)), (.long (0 : Int64)), (.long (0 : Int64))] (.long (0 : Int64)) := V26
  have Z26 : n0 ≤ h26.size := Nat.le_trans Z14 K26q.1
  have c27 : Arv Z h26 vN kN .long (0 : Int32) [] (.long (0 : Int64)) := c15.keep K26q (ninS nevo4_vN nin0)
  have c28 : Fld Z h26 vw "com/example/causeline/causeline/core/Waiting" "order" "J" (.long vw7) := c16.keep K26q (ninS nevo4_vw nin0)
  have c29 : Exa Z h26 va "com/example/causeline/causeline/core/Filing" := c17.keep K26q
  have c30 : Fld Z h26 va "com/example/causeline/causeline/core/Filing" "numbers" "[J" (.ref vn4) := c18.keep K26q (ninS nevo4_va nin0)
  have c31 : Fld Z h26 va "com/example/causeline/causeline/core/Filing" "orders" "[J" (.ref vo4) := c19.keep K26q (ninS nevo4_va nin0)
  have c32 : Fld Z h26 va "com/example/causeline/causeline/core/Filing" "first" "I" (.int (0 : Int32)) := c20.keep K26q (ninS nevo4_va nin0)
  have c33 : Fld Z h26 va "com/example/causeline/causeline/core/Filing" "end" "I" (.int (0 : Int32)) := c21.keep K26q (ninS nevo4_va nin0)
  have c34 : Arv Z h26 vn4 kn4 .long (4 : Int32) [(.long (0 : Int64)), (.long (0 : Int64)), (.long (0 : Int64)), (.long (0 : Int64))] (.long (0 : Int64)) := V14'.keep K26q (ninS nno4 nin0)
  have K26 : Keep h0 h26 [va] := K14.trans K26q (allS (Or.inr sz_vo4) all0)
  obtain ⟨T35, X35, e35, st35⟩ := getF X26 hx hZ hown (host := "") (Or.inl (hw _ (List.mem_of_getElem? (i := 30) rfl))) Via.refl e26 c30 (g := (mkF m 106 #[.val (.ref va), .val (.long vq), .second, .val (.ref vw), .val (.int (0 : Int32))] [(.ref va)])) rfl rfl (hb hby d6_106)
  obtain ⟨cl36, Ar36, q36, S36, NN36, HH36, GG36⟩ := id c34
  have hin36 : ¬ ((0 : Int32) < 0 ∨ cl36.slots.size ≤ ((0 : Int32)).toNatClampNeg) := inb_of S36 ⟨by decide, by decide⟩
  obtain ⟨T37, h37, X37, e37, W37, st37⟩ := stJ X35 hx hZ e35 Ar36 (j := (0 : Int32)) hin36  (g := (mkF m 112 #[.val (.ref va), .val (.long vq), .second, .val (.ref vw), .val (.int (0 : Int32))] [(.long vq), (.int (0 : Int32)), (.ref vn4)])) rfl rfl (hb hby d6_112)
  have V37 : Arv Z h37 vn4 kn4 .long (4 : Int32) [(.long vq), (.long (0 : Int64)), (.long (0 : Int64)), (.long (0 : Int64))] (.long (0 : Int64)) := (Arv.set Ar36 q36 S36 NN36 HH36 GG36 rfl W37 0 rfl (Nat.le_of_ble_eq_true rfl))
  have c38 : Arv Z h37 vN kN .long (0 : Int32) [] (.long (0 : Int64)) := c27.other W37 nevn4_vN
  have c39 : Fld Z h37 vw "com/example/causeline/causeline/core/Waiting" "order" "J" (.long vw7) := c28.other W37 (Or.inl nevn4_vw)
  have c40 : Exa Z h37 va "com/example/causeline/causeline/core/Filing" := c29.wr W37
  have c41 : Fld Z h37 va "com/example/causeline/causeline/core/Filing" "numbers" "[J" (.ref vn4) := c30.other W37 (Or.inl nevn4_va)
  have c42 : Fld Z h37 va "com/example/causeline/causeline/core/Filing" "orders" "[J" (.ref vo4) := c31.other W37 (Or.inl nevn4_va)
  have c43 : Fld Z h37 va "com/example/causeline/causeline/core/Filing" "first" "I" (.int (0 : Int32)) := c32.other W37 (Or.inl nevn4_va)
  have c44 : Fld Z h37 va "com/example/causeline/causeline/core/Filing" "end" "I" (.int (0 : Int32)) := c33.other W37 (Or.inl nevn4_va)
  have c45 : Arv Z h37 vo4 ko4 .long (4 : Int32) [(.long (0 : Int64)), (.long (0 : Int64)), (.long (0 : Int64)), (.long (0 : Int64))] (.long (0 : Int64)) := V26'.other W37 (Ne.symm nno4)
  have Z37 : n0 ≤ h37.size := Nat.le_trans Z26 (Keep.of_wr W37).1
  have N37 := Fr.snoc X37 N26 g_vn4
  have K37 : Keep h0 h37 [va] := K26.wr W37 (Or.inr sz_vn4)
  obtain ⟨T46, X46, e46, st46⟩ := getF X37 hx hZ hown (host := "") (Or.inl (hw _ (List.mem_of_getElem? (i := 32) rfl))) Via.refl e37 c42 (g := (mkF m 114 #[.val (.ref va), .val (.long vq), .second, .val (.ref vw), .val (.int (0 : Int32))] [(.ref va)])) rfl rfl (hb hby d6_114)
  obtain ⟨T47, X47, e47, st47⟩ := getF X46 hx hZ hown (host := "") (Or.inl (hw _ (List.mem_of_getElem? (i := 82) rfl))) Via.refl e46 c39 (g := (mkF m 120 #[.val (.ref va), .val (.long vq), .second, .val (.ref vw), .val (.int (0 : Int32))] [(.ref vw), (.int (0 : Int32)), (.ref vo4)])) rfl rfl (hb hby d6_120)
  obtain ⟨cl48, Ar48, q48, S48, NN48, HH48, GG48⟩ := id c45
  have hin48 : ¬ ((0 : Int32) < 0 ∨ cl48.slots.size ≤ ((0 : Int32)).toNatClampNeg) := inb_of S48 ⟨by decide, by decide⟩
  obtain ⟨T49, h49, X49, e49, W49, st49⟩ := stJ X47 hx hZ e47 Ar48 (j := (0 : Int32)) hin48  (g := (mkF m 123 #[.val (.ref va), .val (.long vq), .second, .val (.ref vw), .val (.int (0 : Int32))] [(.long vw7), (.int (0 : Int32)), (.ref vo4)])) rfl rfl (hb hby d6_123)
  have V49 : Arv Z h49 vo4 ko4 .long (4 : Int32) [(.long vw7), (.long (0 : Int64)), (.long (0 : Int64)), (.long (0 : Int64))] (.long (0 : Int64)) := (Arv.set Ar48 q48 S48 NN48 HH48 GG48 rfl W49 0 rfl (Nat.le_of_ble_eq_true rfl))
  have c50 : Arv Z h49 vN kN .long (0 : Int32) [] (.long (0 : Int64)) := c38.other W49 nevo4_vN
  have c51 : Fld Z h49 vw "com/example/causeline/causeline/core/Waiting" "order" "J" (.long vw7) := c39.other W49 (Or.inl nevo4_vw)
  have c52 : Exa Z h49 va "com/example/causeline/causeline/core/Filing" := c40.wr W49
  have c53 : Fld Z h49 va "com/example/causeline/causeline/core/Filing" "numbers" "[J" (.ref vn4) := c41.other W49 (Or.inl nevo4_va)
  have c54 : Fld Z h49 va "com/example/causeline/causeline/core/Filing" "orders" "[J" (.ref vo4) := c42.other W49 (Or.inl nevo4_va)
  have c55 : Fld Z h49 va "com/example/causeline/causeline/core/Filing" "first" "I" (.int (0 : Int32)) := c43.other W49 (Or.inl nevo4_va)
  have c56 : Fld Z h49 va "com/example/causeline/causeline/core/Filing" "end" "I" (.int (0 : Int32)) := c44.other W49 (Or.inl nevo4_va)
  have c57 : Arv Z h49 vn4 kn4 .long (4 : Int32) [(.long vq), (.long (0 : Int64)), (.long (0 : Int64)), (.long (0 : Int64))] (.long (0 : Int64)) := V37.other W49 nno4
  have Z49 : n0 ≤ h49.size := Nat.le_trans Z37 (Keep.of_wr W49).1
  have N49 := Fr.snoc X49 N37 g_vo4
  have K49 : Keep h0 h49 [va] := K37.wr W49 (Or.inr sz_vo4)
  obtain ⟨T58, X58, e58, st58⟩ := getF X49 hx hZ hown (host := "") (Or.inl (hw _ (List.mem_of_getElem? (i := 66) rfl))) Via.refl e49 c56 (g := (mkF m 126 #[.val (.ref va), .val (.long vq), .second, .val (.ref vw), .val (.int (0 : Int32))] [(.ref va), (.ref va)])) rfl rfl (hb hby d6_126)
  obtain ⟨T59, h59, X59, e59, W59, st59⟩ := putF X58 hx hZ hown (host := "") (Or.inl (hw _ (List.mem_of_getElem? (i := 66) rfl))) Via.refl e58 c56 c52 (Or.inl (hw _ (List.mem_of_getElem? (i := 67) rfl))) (hw _ (List.mem_of_getElem? (i := 6) rfl)) (ty := .int) (by decide) rfl rfl (g := (mkF m 131 #[.val (.ref va), .val (.long vq), .second, .val (.ref vw), .val (.int (0 : Int32))] [(.int (1 : Int32)), (.ref va)])) rfl rfl (hb hby d6_131)
  have Fw59 : Fld Z h59 va "com/example/causeline/causeline/core/Filing" "end" "I" (.int (1 : Int32)) := c56.same W59
  have c60 : Arv Z h59 vN kN .long (0 : Int32) [] (.long (0 : Int64)) := c50.other W59 (Ne.symm naN)
  have c61 : Fld Z h59 vw "com/example/causeline/causeline/core/Waiting" "order" "J" (.long vw7) := c51.other W59 (Or.inl (Ne.symm naw))
  have c62 : Exa Z h59 va "com/example/causeline/causeline/core/Filing" := c52.wr W59
  have c63 : Fld Z h59 va "com/example/causeline/causeline/core/Filing" "numbers" "[J" (.ref vn4) := c53.other W59 (Or.inr (slot_ne (Or.inl (hw _ (List.mem_of_getElem? (i := 31) rfl))) (Or.inl (hw _ (List.mem_of_getElem? (i := 67) rfl))) (by decide) (t := (.array .long)) (t' := .int) (by decide) (by decide)))
  have c64 : Fld Z h59 va "com/example/causeline/causeline/core/Filing" "orders" "[J" (.ref vo4) := c54.other W59 (Or.inr (slot_ne (Or.inl (hw _ (List.mem_of_getElem? (i := 33) rfl))) (Or.inl (hw _ (List.mem_of_getElem? (i := 67) rfl))) (by decide) (t := (.array .long)) (t' := .int) (by decide) (by decide)))
  have c65 : Fld Z h59 va "com/example/causeline/causeline/core/Filing" "first" "I" (.int (0 : Int32)) := c55.other W59 (Or.inr (slot_ne (Or.inl (hw _ (List.mem_of_getElem? (i := 73) rfl))) (Or.inl (hw _ (List.mem_of_getElem? (i := 67) rfl))) (by decide) (t := .int) (t' := .int) (by decide) (by decide)))
  have c66 : Arv Z h59 vn4 kn4 .long (4 : Int32) [(.long vq), (.long (0 : Int64)), (.long (0 : Int64)), (.long (0 : Int64))] (.long (0 : Int64)) := c57.other W59 (Ne.symm nevn4_va)
  have c67 : Arv Z h59 vo4 ko4 .long (4 : Int32) [(.long vw7), (.long (0 : Int64)), (.long (0 : Int64)), (.long (0 : Int64))] (.long (0 : Int64)) := V49.other W59 (Ne.symm nevo4_va)
  have Z59 : n0 ≤ h59.size := Nat.le_trans Z49 (Keep.of_wr W59).1
  have N59 := Fr.snoc X59 N49 g_va
  have K59 : Keep h0 h59 [va] := K49.wr W59 (Or.inl (List.mem_of_getElem? (i := 0) rfl))
  obtain ⟨fs, hr, hrun, hended, hW, hsame⟩ := X59.leave (v := none) (fun _ => rfl) (hlocks := BodyLoose.notSynchronized Bd)
  refine ⟨_, _, pre0 _ ?_, hrun, hended, _, _, rfl, ?_, ⟨_, rfl⟩, hW, hsame.mono (by decide) (by decide)⟩
  ·
    show Steps p.tables e below (s₁.setTop (mkF m 0 #[.val (.ref va), .val (.long vq), .second, .val (.ref vw), .unset] [])) _
    refine XS.aloadN X0.here hx rfl (hb hby d6_0) rfl rfl ?_
    show Steps p.tables e below (s₁.setTop (mkF m 1 #[.val (.ref va), .val (.long vq), .second, .val (.ref vw), .unset] [(.ref va)])) _
    refine st1 _ ?_
    show Steps p.tables e below (T1.setTop (mkF m 4 #[.val (.ref va), .val (.long vq), .second, .val (.ref vw), .unset] [(.int (0 : Int32))])) _
    refine XS.aloadN X1.here hx rfl (hb hby d6_4) rfl rfl ?_
    show Steps p.tables e below (T1.setTop (mkF m 5 #[.val (.ref va), .val (.long vq), .second, .val (.ref vw), .unset] [(.ref va), (.int (0 : Int32))])) _
    refine st2 _ ?_
    show Steps p.tables e below (T2.setTop (mkF m 8 #[.val (.ref va), .val (.long vq), .second, .val (.ref vw), .unset] [(.ref vN), (.int (0 : Int32))])) _
    refine X2.arraylength hx (by rw [e2]; exact Ar3.1) (State.isArrayOf_alike hZ.alike Ar3.2.1) (g := (mkF m 8 #[.val (.ref va), .val (.long vq), .second, .val (.ref vw), .unset] [(.ref vN), (.int (0 : Int32))])) rfl rfl (hb hby d6_8) _ ?_
    rw [len_of S3 NN3]
    show Steps p.tables e below (T2.setTop (mkF m 9 #[.val (.ref va), .val (.long vq), .second, .val (.ref vw), .unset] [(.int (0 : Int32)), (.int (0 : Int32))])) _
    refine XS.icmpNo X2.here hx rfl (hb hby d6_9) rfl (teq ((by decide) : (0 : Int32) = (0 : Int32))).2 ?_
    show Steps p.tables e below (T2.setTop (mkF m 12 #[.val (.ref va), .val (.long vq), .second, .val (.ref vw), .unset] [])) _
    refine XS.aloadN X2.here hx rfl (hb hby d6_12) rfl rfl ?_
    show Steps p.tables e below (T2.setTop (mkF m 13 #[.val (.ref va), .val (.long vq), .second, .val (.ref vw), .unset] [(.ref va)])) _
    refine st4.trans ?_
    show Steps p.tables e below (T4.setTop (mkF m 16 #[.val (.ref va), .val (.long vq), .second, .val (.ref vw), .unset] [])) _
    refine XS.aloadN X4.here hx rfl (hb hby d6_16) rfl rfl ?_
    show Steps p.tables e below (T4.setTop (mkF m 17 #[.val (.ref va), .val (.long vq), .second, .val (.ref vw), .unset] [(.ref va)])) _
    refine st8 _ ?_
    show Steps p.tables e below (T8.setTop (mkF m 20 #[.val (.ref va), .val (.long vq), .second, .val (.ref vw), .unset] [(.int (0 : Int32))])) _
    refine XS.aloadN X8.here hx rfl (hb hby d6_20) rfl rfl ?_
    show Steps p.tables e below (T8.setTop (mkF m 21 #[.val (.ref va), .val (.long vq), .second, .val (.ref vw), .unset] [(.ref va), (.int (0 : Int32))])) _
    refine st9 _ ?_
    show Steps p.tables e below (T9.setTop (mkF m 24 #[.val (.ref va), .val (.long vq), .second, .val (.ref vw), .unset] [(.int (0 : Int32)), (.int (0 : Int32))])) _
    refine XS.icmpYes X9.here hx rfl (pc0 := 24) (pc' := 51) rfl (hb hby d6_24) rfl (flt ((by decide) : ¬ ((0 : Int32) < (0 : Int32)))).2.1 (by decide) (by decide) ?_
    show Steps p.tables e below (T9.setTop (mkF m 51 #[.val (.ref va), .val (.long vq), .second, .val (.ref vw), .unset] [])) _
    refine XS.aloadN X9.here hx rfl (hb hby d6_51) rfl rfl ?_
    show Steps p.tables e below (T9.setTop (mkF m 52 #[.val (.ref va), .val (.long vq), .second, .val (.ref vw), .unset] [(.ref va)])) _
    refine st10 _ ?_
    show Steps p.tables e below (T10.setTop (mkF m 55 #[.val (.ref va), .val (.long vq), .second, .val (.ref vw), .unset] [(.int (0 : Int32))])) _
    refine XS.istore X10.here hx rfl (hb hby d6_55) rfl (l' := #[.val (.ref va), .val (.long vq), .second, .val (.ref vw), .val (.int (0 : Int32))]) rfl ?_
    show Steps p.tables e below (T10.setTop (mkF m 57 #[.val (.ref va), .val (.long vq), .second, .val (.ref vw), .val (.int (0 : Int32))] [])) _
    refine XS.aloadN X10.here hx rfl (hb hby d6_57) rfl rfl ?_
    show Steps p.tables e below (T10.setTop (mkF m 58 #[.val (.ref va), .val (.long vq), .second, .val (.ref vw), .val (.int (0 : Int32))] [(.ref va)])) _
    refine st11 _ ?_
    show Steps p.tables e below (T11.setTop (mkF m 61 #[.val (.ref va), .val (.long vq), .second, .val (.ref vw), .val (.int (0 : Int32))] [(.ref vn4)])) _
    refine XS.iload X11.here hx rfl (hb hby d6_61) rfl ?_
    show Steps p.tables e below (T11.setTop (mkF m 63 #[.val (.ref va), .val (.long vq), .second, .val (.ref vw), .val (.int (0 : Int32))] [(.int (0 : Int32)), (.ref vn4)])) _
    refine XS.aloadN X11.here hx rfl (hb hby d6_63) rfl rfl ?_
    show Steps p.tables e below (T11.setTop (mkF m 64 #[.val (.ref va), .val (.long vq), .second, .val (.ref vw), .val (.int (0 : Int32))] [(.ref va), (.int (0 : Int32)), (.ref vn4)])) _
    refine st12 _ ?_
    show Steps p.tables e below (T12.setTop (mkF m 67 #[.val (.ref va), .val (.long vq), .second, .val (.ref vw), .val (.int (0 : Int32))] [(.ref vn4), (.int (0 : Int32)), (.ref vn4)])) _
    refine XS.iload X12.here hx rfl (hb hby d6_67) rfl ?_
    show Steps p.tables e below (T12.setTop (mkF m 69 #[.val (.ref va), .val (.long vq), .second, .val (.ref vw), .val (.int (0 : Int32))] [(.int (0 : Int32)), (.ref vn4), (.int (0 : Int32)), (.ref vn4)])) _
    refine XS.iconst X12.here hx rfl (hb hby d6_69) ?_
    show Steps p.tables e below (T12.setTop (mkF m 70 #[.val (.ref va), .val (.long vq), .second, .val (.ref vw), .val (.int (0 : Int32))] [(.int (1 : Int32)), (.int (0 : Int32)), (.ref vn4), (.int (0 : Int32)), (.ref vn4)])) _
    refine XS.iadd X12.here hx rfl (hb hby d6_70) rfl ?_
    show Steps p.tables e below (T12.setTop (mkF m 71 #[.val (.ref va), .val (.long vq), .second, .val (.ref vw), .val (.int (0 : Int32))] [(.int (1 : Int32)), (.ref vn4), (.int (0 : Int32)), (.ref vn4)])) _
    refine XS.aloadN X12.here hx rfl (hb hby d6_71) rfl rfl ?_
    show Steps p.tables e below (T12.setTop (mkF m 72 #[.val (.ref va), .val (.long vq), .second, .val (.ref vw), .val (.int (0 : Int32))] [(.ref va), (.int (1 : Int32)), (.ref vn4), (.int (0 : Int32)), (.ref vn4)])) _
    refine st13 _ ?_
    show Steps p.tables e below (T13.setTop (mkF m 75 #[.val (.ref va), .val (.long vq), .second, .val (.ref vw), .val (.int (0 : Int32))] [(.int (0 : Int32)), (.int (1 : Int32)), (.ref vn4), (.int (0 : Int32)), (.ref vn4)])) _
    refine XS.iload X13.here hx rfl (hb hby d6_75) rfl ?_
    show Steps p.tables e below (T13.setTop (mkF m 77 #[.val (.ref va), .val (.long vq), .second, .val (.ref vw), .val (.int (0 : Int32))] [(.int (0 : Int32)), (.int (0 : Int32)), (.int (1 : Int32)), (.ref vn4), (.int (0 : Int32)), (.ref vn4)])) _
    refine XS.isub X13.here hx rfl (hb hby d6_77) rfl ?_
    show Steps p.tables e below (T13.setTop (mkF m 78 #[.val (.ref va), .val (.long vq), .second, .val (.ref vw), .val (.int (0 : Int32))] [(.int (0 : Int32)), (.int (1 : Int32)), (.ref vn4), (.int (0 : Int32)), (.ref vn4)])) _
    refine st14 _ ?_
    show Steps p.tables e below (T14.setTop (mkF m 81 #[.val (.ref va), .val (.long vq), .second, .val (.ref vw), .val (.int (0 : Int32))] [])) _
    refine XS.aloadN X14.here hx rfl (hb hby d6_81) rfl rfl ?_
    show Steps p.tables e below (T14.setTop (mkF m 82 #[.val (.ref va), .val (.long vq), .second, .val (.ref vw), .val (.int (0 : Int32))] [(.ref va)])) _
    refine st23 _ ?_
    show Steps p.tables e below (T23.setTop (mkF m 85 #[.val (.ref va), .val (.long vq), .second, .val (.ref vw), .val (.int (0 : Int32))] [(.ref vo4)])) _
    refine XS.iload X23.here hx rfl (hb hby d6_85) rfl ?_
    show Steps p.tables e below (T23.setTop (mkF m 87 #[.val (.ref va), .val (.long vq), .second, .val (.ref vw), .val (.int (0 : Int32))] [(.int (0 : Int32)), (.ref vo4)])) _
    refine XS.aloadN X23.here hx rfl (hb hby d6_87) rfl rfl ?_
    show Steps p.tables e below (T23.setTop (mkF m 88 #[.val (.ref va), .val (.long vq), .second, .val (.ref vw), .val (.int (0 : Int32))] [(.ref va), (.int (0 : Int32)), (.ref vo4)])) _
    refine st24 _ ?_
    show Steps p.tables e below (T24.setTop (mkF m 91 #[.val (.ref va), .val (.long vq), .second, .val (.ref vw), .val (.int (0 : Int32))] [(.ref vo4), (.int (0 : Int32)), (.ref vo4)])) _
    refine XS.iload X24.here hx rfl (hb hby d6_91) rfl ?_
    show Steps p.tables e below (T24.setTop (mkF m 93 #[.val (.ref va), .val (.long vq), .second, .val (.ref vw), .val (.int (0 : Int32))] [(.int (0 : Int32)), (.ref vo4), (.int (0 : Int32)), (.ref vo4)])) _
    refine XS.iconst X24.here hx rfl (hb hby d6_93) ?_
    show Steps p.tables e below (T24.setTop (mkF m 94 #[.val (.ref va), .val (.long vq), .second, .val (.ref vw), .val (.int (0 : Int32))] [(.int (1 : Int32)), (.int (0 : Int32)), (.ref vo4), (.int (0 : Int32)), (.ref vo4)])) _
    refine XS.iadd X24.here hx rfl (hb hby d6_94) rfl ?_
    show Steps p.tables e below (T24.setTop (mkF m 95 #[.val (.ref va), .val (.long vq), .second, .val (.ref vw), .val (.int (0 : Int32))] [(.int (1 : Int32)), (.ref vo4), (.int (0 : Int32)), (.ref vo4)])) _
    refine XS.aloadN X24.here hx rfl (hb hby d6_95) rfl rfl ?_
    show Steps p.tables e below (T24.setTop (mkF m 96 #[.val (.ref va), .val (.long vq), .second, .val (.ref vw), .val (.int (0 : Int32))] [(.ref va), (.int (1 : Int32)), (.ref vo4), (.int (0 : Int32)), (.ref vo4)])) _
    refine st25 _ ?_
    show Steps p.tables e below (T25.setTop (mkF m 99 #[.val (.ref va), .val (.long vq), .second, .val (.ref vw), .val (.int (0 : Int32))] [(.int (0 : Int32)), (.int (1 : Int32)), (.ref vo4), (.int (0 : Int32)), (.ref vo4)])) _
    refine XS.iload X25.here hx rfl (hb hby d6_99) rfl ?_
    show Steps p.tables e below (T25.setTop (mkF m 101 #[.val (.ref va), .val (.long vq), .second, .val (.ref vw), .val (.int (0 : Int32))] [(.int (0 : Int32)), (.int (0 : Int32)), (.int (1 : Int32)), (.ref vo4), (.int (0 : Int32)), (.ref vo4)])) _
    refine XS.isub X25.here hx rfl (hb hby d6_101) rfl ?_
    show Steps p.tables e below (T25.setTop (mkF m 102 #[.val (.ref va), .val (.long vq), .second, .val (.ref vw), .val (.int (0 : Int32))] [(.int (0 : Int32)), (.int (1 : Int32)), (.ref vo4), (.int (0 : Int32)), (.ref vo4)])) _
    refine st26 _ ?_
    show Steps p.tables e below (T26.setTop (mkF m 105 #[.val (.ref va), .val (.long vq), .second, .val (.ref vw), .val (.int (0 : Int32))] [])) _
    refine XS.aloadN X26.here hx rfl (hb hby d6_105) rfl rfl ?_
    show Steps p.tables e below (T26.setTop (mkF m 106 #[.val (.ref va), .val (.long vq), .second, .val (.ref vw), .val (.int (0 : Int32))] [(.ref va)])) _
    refine st35 _ ?_
    show Steps p.tables e below (T35.setTop (mkF m 109 #[.val (.ref va), .val (.long vq), .second, .val (.ref vw), .val (.int (0 : Int32))] [(.ref vn4)])) _
    refine XS.iload X35.here hx rfl (hb hby d6_109) rfl ?_
    show Steps p.tables e below (T35.setTop (mkF m 111 #[.val (.ref va), .val (.long vq), .second, .val (.ref vw), .val (.int (0 : Int32))] [(.int (0 : Int32)), (.ref vn4)])) _
    refine XS.lloadN X35.here hx rfl (hb hby d6_111) rfl ?_
    show Steps p.tables e below (T35.setTop (mkF m 112 #[.val (.ref va), .val (.long vq), .second, .val (.ref vw), .val (.int (0 : Int32))] [(.long vq), (.int (0 : Int32)), (.ref vn4)])) _
    refine st37 _ ?_
    show Steps p.tables e below (T37.setTop (mkF m 113 #[.val (.ref va), .val (.long vq), .second, .val (.ref vw), .val (.int (0 : Int32))] [])) _
    refine XS.aloadN X37.here hx rfl (hb hby d6_113) rfl rfl ?_
    show Steps p.tables e below (T37.setTop (mkF m 114 #[.val (.ref va), .val (.long vq), .second, .val (.ref vw), .val (.int (0 : Int32))] [(.ref va)])) _
    refine st46 _ ?_
    show Steps p.tables e below (T46.setTop (mkF m 117 #[.val (.ref va), .val (.long vq), .second, .val (.ref vw), .val (.int (0 : Int32))] [(.ref vo4)])) _
    refine XS.iload X46.here hx rfl (hb hby d6_117) rfl ?_
    show Steps p.tables e below (T46.setTop (mkF m 119 #[.val (.ref va), .val (.long vq), .second, .val (.ref vw), .val (.int (0 : Int32))] [(.int (0 : Int32)), (.ref vo4)])) _
    refine XS.aloadN X46.here hx rfl (hb hby d6_119) rfl rfl ?_
    show Steps p.tables e below (T46.setTop (mkF m 120 #[.val (.ref va), .val (.long vq), .second, .val (.ref vw), .val (.int (0 : Int32))] [(.ref vw), (.int (0 : Int32)), (.ref vo4)])) _
    refine st47 _ ?_
    show Steps p.tables e below (T47.setTop (mkF m 123 #[.val (.ref va), .val (.long vq), .second, .val (.ref vw), .val (.int (0 : Int32))] [(.long vw7), (.int (0 : Int32)), (.ref vo4)])) _
    refine st49 _ ?_
    show Steps p.tables e below (T49.setTop (mkF m 124 #[.val (.ref va), .val (.long vq), .second, .val (.ref vw), .val (.int (0 : Int32))] [])) _
    refine XS.aloadN X49.here hx rfl (hb hby d6_124) rfl rfl ?_
    show Steps p.tables e below (T49.setTop (mkF m 125 #[.val (.ref va), .val (.long vq), .second, .val (.ref vw), .val (.int (0 : Int32))] [(.ref va)])) _
    refine XS.dup X49.here hx rfl (hb hby d6_125) rfl rfl ?_
    show Steps p.tables e below (T49.setTop (mkF m 126 #[.val (.ref va), .val (.long vq), .second, .val (.ref vw), .val (.int (0 : Int32))] [(.ref va), (.ref va)])) _
    refine st58 _ ?_
    show Steps p.tables e below (T58.setTop (mkF m 129 #[.val (.ref va), .val (.long vq), .second, .val (.ref vw), .val (.int (0 : Int32))] [(.int (0 : Int32)), (.ref va)])) _
    refine XS.iconst X58.here hx rfl (hb hby d6_129) ?_
    show Steps p.tables e below (T58.setTop (mkF m 130 #[.val (.ref va), .val (.long vq), .second, .val (.ref vw), .val (.int (0 : Int32))] [(.int (1 : Int32)), (.int (0 : Int32)), (.ref va)])) _
    refine XS.iadd X58.here hx rfl (hb hby d6_130) rfl ?_
    show Steps p.tables e below (T58.setTop (mkF m 131 #[.val (.ref va), .val (.long vq), .second, .val (.ref vw), .val (.int (0 : Int32))] [(.int (1 : Int32)), (.ref va)])) _
    refine st59 _ ?_
    show Steps p.tables e below (T59.setTop (mkF m 134 #[.val (.ref va), .val (.long vq), .second, .val (.ref vw), .val (.int (0 : Int32))] [])) _
    exact X59.returnOut hx Bd.returns (hb hby d6_134) hr
  ·
    show QAdd0 Z va vq vw vN kN vw7 h0 n0 _ T59.heap _
    rw [e59]
    exact ⟨rfl, N59, K59, vn4, _, vo4, _, sz_vn4, sz_vo4, g_vn4, g_vo4, nno4, c62, c63, c64, c65, Fw59, c66, c67⟩
theorem d6_27 : decode prog_36_method_2_code 27 = .ok (.aload_n 0, 1) := by decide +kernel
theorem d6_28 : decode prog_36_method_2_code 28 = .ok (.getfield 13, 3) := by decide +kernel
theorem d6_31 : decode prog_36_method_2_code 31 = .ok (.aload_n 0, 1) := by decide +kernel
theorem d6_32 : decode prog_36_method_2_code 32 = .ok (.getfield 23, 3) := by decide +kernel
theorem d6_35 : decode prog_36_method_2_code 35 = .ok (.iconst 1, 1) := by decide +kernel
theorem d6_36 : decode prog_36_method_2_code 36 = .ok (.isub, 1) := by decide +kernel
theorem d6_37 : decode prog_36_method_2_code 37 = .ok (.laload, 1) := by decide +kernel
theorem d6_38 : decode prog_36_method_2_code 38 = .ok (.lload_n 1, 1) := by decide +kernel
theorem d6_39 : decode prog_36_method_2_code 39 = .ok (.lcmp, 1) := by decide +kernel
theorem d6_40 : decode prog_36_method_2_code 40 = .ok (.ifCond .le 11, 3) := by decide +kernel
theorem ef_rmAdd1 (m : MethodId) (x0 : Addr) (x1 : Int64) (x2 : Addr) : entryFrame m #[(.ref x0), (.long x1), (.ref x2)] 5 = mkF m 0 #[.val (.ref x0), .val (.long x1), .second, .val (.ref x2), .unset] [] := by first | (simp [entryFrame, mkF, argsToLocals, Value.category]; done) | rfl
def QAdd1 (Z : State) (va : Addr) (vq : Int64) (vw : Addr) (vn : Addr) (kn : ClassId) (vo : Addr) (ko : ClassId) (vw7 : Int64) (x0 : Int64) (h0 : Heap) (n0 : Nat) (v : Option Value) (h : Heap) (L : List Loc) : Prop := v = none ∧ Fr n0 L ∧ Keep h0 h [va, vn, vo] ∧ Exa Z h va "com/example/causeline/causeline/core/Filing" ∧ Fld Z h va "com/example/causeline/causeline/core/Filing" "numbers" "[J" (.ref vn) ∧ Fld Z h va "com/example/causeline/causeline/core/Filing" "orders" "[J" (.ref vo) ∧ Fld Z h va "com/example/causeline/causeline/core/Filing" "first" "I" (.int (0 : Int32)) ∧ Fld Z h va "com/example/causeline/causeline/core/Filing" "end" "I" (.int (2 : Int32)) ∧ Arv Z h vn kn .long (4 : Int32) [(.long x0), (.long vq), (.long (0 : Int64)), (.long (0 : Int64))] (.long (0 : Int64)) ∧ Arv Z h vo ko .long (4 : Int32) [(.long vw7), (.long vw7), (.long (0 : Int64)), (.long (0 : Int64))] (.long (0 : Int64))
set_option maxRecDepth 65536 in
set_option maxHeartbeats 40000000 in
theorem rmAdd1 (l : Launch) (Z : State) (a0 : Array Value) (hw : ∀ d ∈ tables_1, d.before a0 Z = true) (ws : List Jvm.Cond) (va : Addr) (vq : Int64) (vw : Addr) (vn : Addr) (kn : ClassId) (vo : Addr) (ko : ClassId) (vw7 : Int64) (x0 : Int64) (h0 : Heap) (n0 : Nat) (Z0 : n0 ≤ h0.size) (Ea : Exa Z h0 va "com/example/causeline/causeline/core/Filing") (Fn : Fld Z h0 va "com/example/causeline/causeline/core/Filing" "numbers" "[J" (.ref vn)) (Fo : Fld Z h0 va "com/example/causeline/causeline/core/Filing" "orders" "[J" (.ref vo)) (Ff : Fld Z h0 va "com/example/causeline/causeline/core/Filing" "first" "I" (.int (0 : Int32))) (Fe : Fld Z h0 va "com/example/causeline/causeline/core/Filing" "end" "I" (.int (1 : Int32))) (Vn : Arv Z h0 vn kn .long (4 : Int32) [(.long x0), (.long (0 : Int64)), (.long (0 : Int64)), (.long (0 : Int64))] (.long (0 : Int64))) (Vo : Arv Z h0 vo ko .long (4 : Int32) [(.long vw7), (.long (0 : Int64)), (.long (0 : Int64)), (.long (0 : Int64))] (.long (0 : Int64))) (Fw : Fld Z h0 vw "com/example/causeline/causeline/core/Waiting" "order" "J" (.long vw7)) (g_va : n0 ≤ va) (g_vn : n0 ≤ vn) (g_vo : n0 ≤ vo) (n_va_vn : va ≠ vn) (n_va_vo : va ≠ vo) (n_vn_vo : vn ≠ vo) (n_va_vw : va ≠ vw) (n_vw_vn : vw ≠ vn) (n_vw_vo : vw ≠ vo) (hle : ¬ vq < x0) :
    MetFree l (⟨"com/example/causeline/causeline/core/Filing", "add", "(JLcom/example/causeline/causeline/core/Waiting;)V"⟩ : MethodName) (head1 (Jvm.Cond.code (⟨"com/example/causeline/causeline/core/Filing", "add", "(JLcom/example/causeline/causeline/core/Waiting;)V"⟩ : MethodName) prog_36_method_2_code 5 none :: ws) ({ frames := 1, cells := 0, slots := 0, locals := 18 } : Room)) (fun a U => a = #[(.ref va), (.long vq), (.ref vw)] ∧ Z.Warmed39 U.vm ∧ U.heap = h0) (fun _ _ _ _ _ => True) (fun _ U o U' => ∃ v L, o = .returned v ∧ QAdd1 Z va vq vw vn kn vo ko vw7 x0 h0 n0 v U'.heap L ∧ FrameEnd U o U' L ({ frames := 1, cells := 0, slots := 0, locals := 18 } : Room).cells ({ frames := 1, cells := 0, slots := 0, locals := 18 } : Room).slots) := by
  refine MetFree.of_bodySF (plainFor_of_name pn_48) hisR ?_
  intro p e s m args below meth c s₁ Bd hml0 hP hK
  obtain ⟨rfl, hZ, hh⟩ := hP
  have hx := Bd.exec
  have hby := Bd.bytes
  have hml : c.maxLocals = 5 := hml0
  have hown : s.vm.findClass "com/example/causeline/causeline/core/Filing" = some m.cls := findClass_of_methodNamed Bd.named
  have hnm := (name_of_methodNamed Bd.named Bd.method).1
  have X0 : Stand p l e ({ frames := 1, cells := 0, slots := 0, locals := 18 } : Room) s m #[(.ref va), (.long vq), (.ref vw)] below meth c s₁ [] 0 0 := Stand.of_body Bd
  have e0 : s₁.heap = h0 := by rw [← hh, Bd.state]; rfl
  have N0 := Fr.nil n0
  have pre0 : ∀ t, Steps p.tables e below (s₁.setTop (mkF m 0 #[.val (.ref va), .val (.long vq), .second, .val (.ref vw), .unset] [])) t → Steps p.tables e below (s₁.setTop (entryFrame m #[(.ref va), (.long vq), (.ref vw)] 5)) t := fun t k => castTop (ef_rmAdd1 m va vq vw) k
  obtain ⟨T1, X1, e1, st1⟩ := getF X0 hx hZ hown (host := "") (Or.inl (hw _ (List.mem_of_getElem? (i := 66) rfl))) Via.refl e0 Fe (g := (mkF m 1 #[.val (.ref va), .val (.long vq), .second, .val (.ref vw), .unset] [(.ref va)])) rfl rfl (hb hby d6_1)
  obtain ⟨T2, X2, e2, st2⟩ := getF X1 hx hZ hown (host := "") (Or.inl (hw _ (List.mem_of_getElem? (i := 32) rfl))) Via.refl e1 Fo (g := (mkF m 5 #[.val (.ref va), .val (.long vq), .second, .val (.ref vw), .unset] [(.ref va), (.int (1 : Int32))])) rfl rfl (hb hby d6_5)
  obtain ⟨cl3, Ar3, q3, S3, NN3, HH3, GG3⟩ := id Vo
  obtain ⟨T4, X4, e4, st4⟩ := getF X2 hx hZ hown (host := "") (Or.inl (hw _ (List.mem_of_getElem? (i := 72) rfl))) Via.refl e2 Ff (g := (mkF m 17 #[.val (.ref va), .val (.long vq), .second, .val (.ref vw), .unset] [(.ref va)])) rfl rfl (hb hby d6_17)
  obtain ⟨T5, X5, e5, st5⟩ := getF X4 hx hZ hown (host := "") (Or.inl (hw _ (List.mem_of_getElem? (i := 66) rfl))) Via.refl e4 Fe (g := (mkF m 21 #[.val (.ref va), .val (.long vq), .second, .val (.ref vw), .unset] [(.ref va), (.int (0 : Int32))])) rfl rfl (hb hby d6_21)
  obtain ⟨T6, X6, e6, st6⟩ := getF X5 hx hZ hown (host := "") (Or.inl (hw _ (List.mem_of_getElem? (i := 30) rfl))) Via.refl e5 Fn (g := (mkF m 28 #[.val (.ref va), .val (.long vq), .second, .val (.ref vw), .unset] [(.ref va)])) rfl rfl (hb hby d6_28)
  obtain ⟨T7, X7, e7, st7⟩ := getF X6 hx hZ hown (host := "") (Or.inl (hw _ (List.mem_of_getElem? (i := 66) rfl))) Via.refl e6 Fe (g := (mkF m 32 #[.val (.ref va), .val (.long vq), .second, .val (.ref vw), .unset] [(.ref va), (.ref vn)])) rfl rfl (hb hby d6_32)
  obtain ⟨cl8, Ar8, q8, S8, NN8, HH8, GG8⟩ := id Vn
  have hin8 : ¬ ((0 : Int32) < 0 ∨ cl8.slots.size ≤ ((0 : Int32)).toNatClampNeg) := inb_of S8 ⟨by decide, by decide⟩
  have hat8 : cl8.slots[((0 : Int32)).toNatClampNeg]? = some (.long x0) := HH8.at hin8 rfl
  obtain ⟨T9, X9, e9, st9⟩ := getF X7 hx hZ hown (host := "") (Or.inl (hw _ (List.mem_of_getElem? (i := 66) rfl))) Via.refl e7 Fe (g := (mkF m 52 #[.val (.ref va), .val (.long vq), .second, .val (.ref vw), .unset] [(.ref va)])) rfl rfl (hb hby d6_52)
  obtain ⟨T10, X10, e10, st10⟩ := getF X9 hx hZ hown (host := "") (Or.inl (hw _ (List.mem_of_getElem? (i := 30) rfl))) Via.refl e9 Fn (g := (mkF m 58 #[.val (.ref va), .val (.long vq), .second, .val (.ref vw), .val (.int (1 : Int32))] [(.ref va)])) rfl rfl (hb hby d6_58)
  obtain ⟨T11, X11, e11, st11⟩ := getF X10 hx hZ hown (host := "") (Or.inl (hw _ (List.mem_of_getElem? (i := 30) rfl))) Via.refl e10 Fn (g := (mkF m 64 #[.val (.ref va), .val (.long vq), .second, .val (.ref vw), .val (.int (1 : Int32))] [(.ref va), (.int (1 : Int32)), (.ref vn)])) rfl rfl (hb hby d6_64)
  obtain ⟨T12, X12, e12, st12⟩ := getF X11 hx hZ hown (host := "") (Or.inl (hw _ (List.mem_of_getElem? (i := 66) rfl))) Via.refl e11 Fe (g := (mkF m 72 #[.val (.ref va), .val (.long vq), .second, .val (.ref vw), .val (.int (1 : Int32))] [(.ref va), (.int (2 : Int32)), (.ref vn), (.int (1 : Int32)), (.ref vn)])) rfl rfl (hb hby d6_72)
  obtain ⟨T13, h13, L13, X13, e13, N13, K13q, V13, st13⟩ := cpA X12 hx hZ hown (hw _ (List.mem_of_getElem? (i := 78) rfl)) (hw _ (List.mem_of_getElem? (i := 81) rfl)) (hw _ (List.mem_of_getElem? (i := 79) rfl)) (hw _ (List.mem_of_getElem? (i := 80) rfl)) e12 Vn Vn (Or.inl ⟨rfl, rfl⟩) (sp := (1 : Int32)) (dp := (2 : Int32)) (nn := (0 : Int32)) (by decide) (by decide) (by decide) (by decide) (by decide) (us := []) rfl (Nat.le_of_ble_eq_true rfl) N0 g_vn (g := (mkF m 78 #[.val (.ref va), .val (.long vq), .second, .val (.ref vw), .val (.int (1 : Int32))] [(.int (0 : Int32)), (.int (2 : Int32)), (.ref vn), (.int (1 : Int32)), (.ref vn)])) rfl (by rw [hml]; rfl) rfl (hb hby d6_78) (by decide) (W := 0) (by show 2 * 0 + _ ≤ _; exact Nat.le_of_eq rfl) (by decide)
  have V13' : Arv Z h13 vn kn .long (4 : Int32) [(.long x0), (.long (0 : Int64)), (.long (0 : Int64)), (.long (0 : Int64))] (.long (0 : Int64)) := V13
  have Z13 : n0 ≤ h13.size := Nat.le_trans Z0 K13q.1
  have c14 : Exa Z h13 va "com/example/causeline/causeline/core/Filing" := Ea.keep K13q
  have c15 : Fld Z h13 va "com/example/causeline/causeline/core/Filing" "numbers" "[J" (.ref vn) := Fn.keep K13q (ninS n_va_vn nin0)
  have c16 : Fld Z h13 va "com/example/causeline/causeline/core/Filing" "orders" "[J" (.ref vo) := Fo.keep K13q (ninS n_va_vn nin0)
  have c17 : Fld Z h13 va "com/example/causeline/causeline/core/Filing" "first" "I" (.int (0 : Int32)) := Ff.keep K13q (ninS n_va_vn nin0)
  have c18 : Fld Z h13 va "com/example/causeline/causeline/core/Filing" "end" "I" (.int (1 : Int32)) := Fe.keep K13q (ninS n_va_vn nin0)
  have c19 : Arv Z h13 vo ko .long (4 : Int32) [(.long vw7), (.long (0 : Int64)), (.long (0 : Int64)), (.long (0 : Int64))] (.long (0 : Int64)) := Vo.keep K13q (ninS (Ne.symm n_vn_vo) nin0)
  have c20 : Fld Z h13 vw "com/example/causeline/causeline/core/Waiting" "order" "J" (.long vw7) := Fw.keep K13q (ninS n_vw_vn nin0)
  have K13 : Keep h0 h13 [va, vn, vo] := (Keep.refl h0 [va, vn, vo]).trans K13q (allS (Or.inl (List.mem_of_getElem? (i := 1) rfl)) all0)
  obtain ⟨T21, X21, e21, st21⟩ := getF X13 hx hZ hown (host := "") (Or.inl (hw _ (List.mem_of_getElem? (i := 32) rfl))) Via.refl e13 c16 (g := (mkF m 82 #[.val (.ref va), .val (.long vq), .second, .val (.ref vw), .val (.int (1 : Int32))] [(.ref va)])) rfl rfl (hb hby d6_82)
  obtain ⟨T22, X22, e22, st22⟩ := getF X21 hx hZ hown (host := "") (Or.inl (hw _ (List.mem_of_getElem? (i := 32) rfl))) Via.refl e21 c16 (g := (mkF m 88 #[.val (.ref va), .val (.long vq), .second, .val (.ref vw), .val (.int (1 : Int32))] [(.ref va), (.int (1 : Int32)), (.ref vo)])) rfl rfl (hb hby d6_88)
  obtain ⟨T23, X23, e23, st23⟩ := getF X22 hx hZ hown (host := "") (Or.inl (hw _ (List.mem_of_getElem? (i := 66) rfl))) Via.refl e22 c18 (g := (mkF m 96 #[.val (.ref va), .val (.long vq), .second, .val (.ref vw), .val (.int (1 : Int32))] [(.ref va), (.int (2 : Int32)), (.ref vo), (.int (1 : Int32)), (.ref vo)])) rfl rfl (hb hby d6_96)
  obtain ⟨T24, h24, L24, X24, e24, N24, K24q, V24, st24⟩ := cpA X23 hx hZ hown (hw _ (List.mem_of_getElem? (i := 78) rfl)) (hw _ (List.mem_of_getElem? (i := 81) rfl)) (hw _ (List.mem_of_getElem? (i := 79) rfl)) (hw _ (List.mem_of_getElem? (i := 80) rfl)) e23 c19 c19 (Or.inl ⟨rfl, rfl⟩) (sp := (1 : Int32)) (dp := (2 : Int32)) (nn := (0 : Int32)) (by decide) (by decide) (by decide) (by decide) (by decide) (us := []) rfl (Nat.le_of_ble_eq_true rfl) N13 g_vo (g := (mkF m 102 #[.val (.ref va), .val (.long vq), .second, .val (.ref vw), .val (.int (1 : Int32))] [(.int (0 : Int32)), (.int (2 : Int32)), (.ref vo), (.int (1 : Int32)), (.ref vo)])) rfl (by rw [hml]; rfl) rfl (hb hby d6_102) (by decide) (W := 0) (by show 2 * 0 + _ ≤ _; exact Nat.le_of_eq rfl) (by decide)
  have V24' : Arv Z h24 vo ko .long (4 : Int32) [(.long vw7), (.long (0 : Int64)), (.long (0 : Int64)), (.long (0 : Int64))] (.long (0 : Int64)) := V24
  have Z24 : n0 ≤ h24.size := Nat.le_trans Z13 K24q.1
  have c25 : Exa Z h24 va "com/example/causeline/causeline/core/Filing" := c14.keep K24q
  have c26 : Fld Z h24 va "com/example/causeline/causeline/core/Filing" "numbers" "[J" (.ref vn) := c15.keep K24q (ninS n_va_vo nin0)
  have c27 : Fld Z h24 va "com/example/causeline/causeline/core/Filing" "orders" "[J" (.ref vo) := c16.keep K24q (ninS n_va_vo nin0)
  have c28 : Fld Z h24 va "com/example/causeline/causeline/core/Filing" "first" "I" (.int (0 : Int32)) := c17.keep K24q (ninS n_va_vo nin0)
  have c29 : Fld Z h24 va "com/example/causeline/causeline/core/Filing" "end" "I" (.int (1 : Int32)) := c18.keep K24q (ninS n_va_vo nin0)
  have c30 : Fld Z h24 vw "com/example/causeline/causeline/core/Waiting" "order" "J" (.long vw7) := c20.keep K24q (ninS n_vw_vo nin0)
  have c31 : Arv Z h24 vn kn .long (4 : Int32) [(.long x0), (.long (0 : Int64)), (.long (0 : Int64)), (.long (0 : Int64))] (.long (0 : Int64)) := V13'.keep K24q (ninS n_vn_vo nin0)
  have K24 : Keep h0 h24 [va, vn, vo] := K13.trans K24q (allS (Or.inl (List.mem_of_getElem? (i := 2) rfl)) all0)
  obtain ⟨T32, X32, e32, st32⟩ := getF X24 hx hZ hown (host := "") (Or.inl (hw _ (List.mem_of_getElem? (i := 30) rfl))) Via.refl e24 c26 (g := (mkF m 106 #[.val (.ref va), .val (.long vq), .second, .val (.ref vw), .val (.int (1 : Int32))] [(.ref va)])) rfl rfl (hb hby d6_106)
  obtain ⟨cl33, Ar33, q33, S33, NN33, HH33, GG33⟩ := id c31
  have hin33 : ¬ ((1 : Int32) < 0 ∨ cl33.slots.size ≤ ((1 : Int32)).toNatClampNeg) := inb_of S33 ⟨by decide, by decide⟩
  obtain ⟨T34, h34, X34, e34, W34, st34⟩ := stJ X32 hx hZ e32 Ar33 (j := (1 : Int32)) hin33  (g := (mkF m 112 #[.val (.ref va), .val (.long vq), .second, .val (.ref vw), .val (.int (1 : Int32))] [(.long vq), (.int (1 : Int32)), (.ref vn)])) rfl rfl (hb hby d6_112)
  have V34 : Arv Z h34 vn kn .long (4 : Int32) [(.long x0), (.long vq), (.long (0 : Int64)), (.long (0 : Int64))] (.long (0 : Int64)) := (Arv.set Ar33 q33 S33 NN33 HH33 GG33 rfl W34 1 rfl (Nat.le_of_ble_eq_true rfl))
  have c35 : Exa Z h34 va "com/example/causeline/causeline/core/Filing" := c25.wr W34
  have c36 : Fld Z h34 va "com/example/causeline/causeline/core/Filing" "numbers" "[J" (.ref vn) := c26.other W34 (Or.inl n_va_vn)
  have c37 : Fld Z h34 va "com/example/causeline/causeline/core/Filing" "orders" "[J" (.ref vo) := c27.other W34 (Or.inl n_va_vn)
  have c38 : Fld Z h34 va "com/example/causeline/causeline/core/Filing" "first" "I" (.int (0 : Int32)) := c28.other W34 (Or.inl n_va_vn)
  have c39 : Fld Z h34 va "com/example/causeline/causeline/core/Filing" "end" "I" (.int (1 : Int32)) := c29.other W34 (Or.inl n_va_vn)
  have c40 : Fld Z h34 vw "com/example/causeline/causeline/core/Waiting" "order" "J" (.long vw7) := c30.other W34 (Or.inl n_vw_vn)
  have c41 : Arv Z h34 vo ko .long (4 : Int32) [(.long vw7), (.long (0 : Int64)), (.long (0 : Int64)), (.long (0 : Int64))] (.long (0 : Int64)) := V24'.other W34 (Ne.symm n_vn_vo)
  have Z34 : n0 ≤ h34.size := Nat.le_trans Z24 (Keep.of_wr W34).1
  have N34 := Fr.snoc X34 N24 g_vn
  have K34 : Keep h0 h34 [va, vn, vo] := K24.wr W34 (Or.inl (List.mem_of_getElem? (i := 1) rfl))
  obtain ⟨T42, X42, e42, st42⟩ := getF X34 hx hZ hown (host := "") (Or.inl (hw _ (List.mem_of_getElem? (i := 32) rfl))) Via.refl e34 c37 (g := (mkF m 114 #[.val (.ref va), .val (.long vq), .second, .val (.ref vw), .val (.int (1 : Int32))] [(.ref va)])) rfl rfl (hb hby d6_114)
  obtain ⟨T43, X43, e43, st43⟩ := getF X42 hx hZ hown (host := "") (Or.inl (hw _ (List.mem_of_getElem? (i := 82) rfl))) Via.refl e42 c40 (g := (mkF m 120 #[.val (.ref va), .val (.long vq), .second, .val (.ref vw), .val (.int (1 : Int32))] [(.ref vw), (.int (1 : Int32)), (.ref vo)])) rfl rfl (hb hby d6_120)
  obtain ⟨cl44, Ar44, q44, S44, NN44, HH44, GG44⟩ := id c41
  have hin44 : ¬ ((1 : Int32) < 0 ∨ cl44.slots.size ≤ ((1 : Int32)).toNatClampNeg) := inb_of S44 ⟨by decide, by decide⟩
  obtain ⟨T45, h45, X45, e45, W45, st45⟩ := stJ X43 hx hZ e43 Ar44 (j := (1 : Int32)) hin44  (g := (mkF m 123 #[.val (.ref va), .val (.long vq), .second, .val (.ref vw), .val (.int (1 : Int32))] [(.long vw7), (.int (1 : Int32)), (.ref vo)])) rfl rfl (hb hby d6_123)
  have V45 : Arv Z h45 vo ko .long (4 : Int32) [(.long vw7), (.long vw7), (.long (0 : Int64)), (.long (0 : Int64))] (.long (0 : Int64)) := (Arv.set Ar44 q44 S44 NN44 HH44 GG44 rfl W45 1 rfl (Nat.le_of_ble_eq_true rfl))
  have c46 : Exa Z h45 va "com/example/causeline/causeline/core/Filing" := c35.wr W45
  have c47 : Fld Z h45 va "com/example/causeline/causeline/core/Filing" "numbers" "[J" (.ref vn) := c36.other W45 (Or.inl n_va_vo)
  have c48 : Fld Z h45 va "com/example/causeline/causeline/core/Filing" "orders" "[J" (.ref vo) := c37.other W45 (Or.inl n_va_vo)
  have c49 : Fld Z h45 va "com/example/causeline/causeline/core/Filing" "first" "I" (.int (0 : Int32)) := c38.other W45 (Or.inl n_va_vo)
  have c50 : Fld Z h45 va "com/example/causeline/causeline/core/Filing" "end" "I" (.int (1 : Int32)) := c39.other W45 (Or.inl n_va_vo)
  have c51 : Fld Z h45 vw "com/example/causeline/causeline/core/Waiting" "order" "J" (.long vw7) := c40.other W45 (Or.inl n_vw_vo)
  have c52 : Arv Z h45 vn kn .long (4 : Int32) [(.long x0), (.long vq), (.long (0 : Int64)), (.long (0 : Int64))] (.long (0 : Int64)) := V34.other W45 n_vn_vo
  have Z45 : n0 ≤ h45.size := Nat.le_trans Z34 (Keep.of_wr W45).1
  have N45 := Fr.snoc X45 N34 g_vo
  have K45 : Keep h0 h45 [va, vn, vo] := K34.wr W45 (Or.inl (List.mem_of_getElem? (i := 2) rfl))
  obtain ⟨T53, X53, e53, st53⟩ := getF X45 hx hZ hown (host := "") (Or.inl (hw _ (List.mem_of_getElem? (i := 66) rfl))) Via.refl e45 c50 (g := (mkF m 126 #[.val (.ref va), .val (.long vq), .second, .val (.ref vw), .val (.int (1 : Int32))] [(.ref va), (.ref va)])) rfl rfl (hb hby d6_126)
  obtain ⟨T54, h54, X54, e54, W54, st54⟩ := putF X53 hx hZ hown (host := "") (Or.inl (hw _ (List.mem_of_getElem? (i := 66) rfl))) Via.refl e53 c50 c46 (Or.inl (hw _ (List.mem_of_getElem? (i := 67) rfl))) (hw _ (List.mem_of_getElem? (i := 6) rfl)) (ty := .int) (by decide) rfl rfl (g := (mkF m 131 #[.val (.ref va), .val (.long vq), .second, .val (.ref vw), .val (.int (1 : Int32))] [(.int (2 : Int32)), (.ref va)])) rfl rfl (hb hby d6_131)
  have Fw54 : Fld Z h54 va "com/example/causeline/causeline/core/Filing" "end" "I" (.int (2 : Int32)) := c50.same W54
  have c55 : Exa Z h54 va "com/example/causeline/causeline/core/Filing" := c46.wr W54
  have c56 : Fld Z h54 va "com/example/causeline/causeline/core/Filing" "numbers" "[J" (.ref vn) := c47.other W54 (Or.inr (slot_ne (Or.inl (hw _ (List.mem_of_getElem? (i := 31) rfl))) (Or.inl (hw _ (List.mem_of_getElem? (i := 67) rfl))) (by decide) (t := (.array .long)) (t' := .int) (by decide) (by decide)))
  have c57 : Fld Z h54 va "com/example/causeline/causeline/core/Filing" "orders" "[J" (.ref vo) := c48.other W54 (Or.inr (slot_ne (Or.inl (hw _ (List.mem_of_getElem? (i := 33) rfl))) (Or.inl (hw _ (List.mem_of_getElem? (i := 67) rfl))) (by decide) (t := (.array .long)) (t' := .int) (by decide) (by decide)))
  have c58 : Fld Z h54 va "com/example/causeline/causeline/core/Filing" "first" "I" (.int (0 : Int32)) := c49.other W54 (Or.inr (slot_ne (Or.inl (hw _ (List.mem_of_getElem? (i := 73) rfl))) (Or.inl (hw _ (List.mem_of_getElem? (i := 67) rfl))) (by decide) (t := .int) (t' := .int) (by decide) (by decide)))
  have c59 : Fld Z h54 vw "com/example/causeline/causeline/core/Waiting" "order" "J" (.long vw7) := c51.other W54 (Or.inl (Ne.symm n_va_vw))
  have c60 : Arv Z h54 vn kn .long (4 : Int32) [(.long x0), (.long vq), (.long (0 : Int64)), (.long (0 : Int64))] (.long (0 : Int64)) := c52.other W54 (Ne.symm n_va_vn)
  have c61 : Arv Z h54 vo ko .long (4 : Int32) [(.long vw7), (.long vw7), (.long (0 : Int64)), (.long (0 : Int64))] (.long (0 : Int64)) := V45.other W54 (Ne.symm n_va_vo)
  have Z54 : n0 ≤ h54.size := Nat.le_trans Z45 (Keep.of_wr W54).1
  have N54 := Fr.snoc X54 N45 g_va
  have K54 : Keep h0 h54 [va, vn, vo] := K45.wr W54 (Or.inl (List.mem_of_getElem? (i := 0) rfl))
  obtain ⟨fs, hr, hrun, hended, hW, hsame⟩ := X54.leave (v := none) (fun _ => rfl) (hlocks := BodyLoose.notSynchronized Bd)
  refine ⟨_, _, pre0 _ ?_, hrun, hended, _, _, rfl, ?_, ⟨_, rfl⟩, hW, hsame.mono (by decide) (by decide)⟩
  ·
    show Steps p.tables e below (s₁.setTop (mkF m 0 #[.val (.ref va), .val (.long vq), .second, .val (.ref vw), .unset] [])) _
    refine XS.aloadN X0.here hx rfl (hb hby d6_0) rfl rfl ?_
    show Steps p.tables e below (s₁.setTop (mkF m 1 #[.val (.ref va), .val (.long vq), .second, .val (.ref vw), .unset] [(.ref va)])) _
    refine st1 _ ?_
    show Steps p.tables e below (T1.setTop (mkF m 4 #[.val (.ref va), .val (.long vq), .second, .val (.ref vw), .unset] [(.int (1 : Int32))])) _
    refine XS.aloadN X1.here hx rfl (hb hby d6_4) rfl rfl ?_
    show Steps p.tables e below (T1.setTop (mkF m 5 #[.val (.ref va), .val (.long vq), .second, .val (.ref vw), .unset] [(.ref va), (.int (1 : Int32))])) _
    refine st2 _ ?_
    show Steps p.tables e below (T2.setTop (mkF m 8 #[.val (.ref va), .val (.long vq), .second, .val (.ref vw), .unset] [(.ref vo), (.int (1 : Int32))])) _
    refine X2.arraylength hx (by rw [e2]; exact Ar3.1) (State.isArrayOf_alike hZ.alike Ar3.2.1) (g := (mkF m 8 #[.val (.ref va), .val (.long vq), .second, .val (.ref vw), .unset] [(.ref vo), (.int (1 : Int32))])) rfl rfl (hb hby d6_8) _ ?_
    rw [len_of S3 NN3]
    show Steps p.tables e below (T2.setTop (mkF m 9 #[.val (.ref va), .val (.long vq), .second, .val (.ref vw), .unset] [(.int (4 : Int32)), (.int (1 : Int32))])) _
    refine XS.icmpYes X2.here hx rfl (pc0 := 9) (pc' := 16) rfl (hb hby d6_9) rfl (feq ((by decide) : ¬ ((1 : Int32) = (4 : Int32)))).2 (by decide) (by decide) ?_
    show Steps p.tables e below (T2.setTop (mkF m 16 #[.val (.ref va), .val (.long vq), .second, .val (.ref vw), .unset] [])) _
    refine XS.aloadN X2.here hx rfl (hb hby d6_16) rfl rfl ?_
    show Steps p.tables e below (T2.setTop (mkF m 17 #[.val (.ref va), .val (.long vq), .second, .val (.ref vw), .unset] [(.ref va)])) _
    refine st4 _ ?_
    show Steps p.tables e below (T4.setTop (mkF m 20 #[.val (.ref va), .val (.long vq), .second, .val (.ref vw), .unset] [(.int (0 : Int32))])) _
    refine XS.aloadN X4.here hx rfl (hb hby d6_20) rfl rfl ?_
    show Steps p.tables e below (T4.setTop (mkF m 21 #[.val (.ref va), .val (.long vq), .second, .val (.ref vw), .unset] [(.ref va), (.int (0 : Int32))])) _
    refine st5 _ ?_
    show Steps p.tables e below (T5.setTop (mkF m 24 #[.val (.ref va), .val (.long vq), .second, .val (.ref vw), .unset] [(.int (1 : Int32)), (.int (0 : Int32))])) _
    refine XS.icmpNo X5.here hx rfl (hb hby d6_24) rfl (tlt ((by decide) : (0 : Int32) < (1 : Int32))).2.1 ?_
    show Steps p.tables e below (T5.setTop (mkF m 27 #[.val (.ref va), .val (.long vq), .second, .val (.ref vw), .unset] [])) _
    refine XS.aloadN X5.here hx rfl (hb hby d6_27) rfl rfl ?_
    show Steps p.tables e below (T5.setTop (mkF m 28 #[.val (.ref va), .val (.long vq), .second, .val (.ref vw), .unset] [(.ref va)])) _
    refine st6 _ ?_
    show Steps p.tables e below (T6.setTop (mkF m 31 #[.val (.ref va), .val (.long vq), .second, .val (.ref vw), .unset] [(.ref vn)])) _
    refine XS.aloadN X6.here hx rfl (hb hby d6_31) rfl rfl ?_
    show Steps p.tables e below (T6.setTop (mkF m 32 #[.val (.ref va), .val (.long vq), .second, .val (.ref vw), .unset] [(.ref va), (.ref vn)])) _
    refine st7 _ ?_
    show Steps p.tables e below (T7.setTop (mkF m 35 #[.val (.ref va), .val (.long vq), .second, .val (.ref vw), .unset] [(.int (1 : Int32)), (.ref vn)])) _
    refine XS.iconst X7.here hx rfl (hb hby d6_35) ?_
    show Steps p.tables e below (T7.setTop (mkF m 36 #[.val (.ref va), .val (.long vq), .second, .val (.ref vw), .unset] [(.int (1 : Int32)), (.int (1 : Int32)), (.ref vn)])) _
    refine XS.isub X7.here hx rfl (hb hby d6_36) rfl ?_
    show Steps p.tables e below (T7.setTop (mkF m 37 #[.val (.ref va), .val (.long vq), .second, .val (.ref vw), .unset] [(.int (0 : Int32)), (.ref vn)])) _
    refine X7.laload hx (j := (0 : Int32)) (v := (.long x0)) (by rw [e7]; exact Ar8.1) (State.isArrayOf_alike hZ.alike Ar8.2.1) Ar8.2.2 hin8 hat8 (g := (mkF m 37 #[.val (.ref va), .val (.long vq), .second, .val (.ref vw), .unset] [(.int (0 : Int32)), (.ref vn)])) rfl rfl (hb hby d6_37) _ ?_
    show Steps p.tables e below (T7.setTop (mkF m 38 #[.val (.ref va), .val (.long vq), .second, .val (.ref vw), .unset] [(.long x0)])) _
    refine XS.lloadN X7.here hx rfl (hb hby d6_38) rfl ?_
    show Steps p.tables e below (T7.setTop (mkF m 39 #[.val (.ref va), .val (.long vq), .second, .val (.ref vw), .unset] [(.long vq), (.long x0)])) _
    refine XS.lcmp X7.here hx rfl (hb hby d6_39) rfl ?_
    show Steps p.tables e below (T7.setTop (mkF m 40 #[.val (.ref va), .val (.long vq), .second, .val (.ref vw), .unset] [(.int (lcmpW x0 vq))])) _
    refine XS.ifYes X7.here hx rfl (pc0 := 40) (pc' := 51) rfl (hb hby d6_40) rfl ((if0 _ _).trans (flt ((fun q => hle ((lw_gt _ _).mp q)) : ¬ ((0 : Int32) < (lcmpW x0 vq)))).2.2.2) (by decide) (by decide) ?_
    show Steps p.tables e below (T7.setTop (mkF m 51 #[.val (.ref va), .val (.long vq), .second, .val (.ref vw), .unset] [])) _
    refine XS.aloadN X7.here hx rfl (hb hby d6_51) rfl rfl ?_
    show Steps p.tables e below (T7.setTop (mkF m 52 #[.val (.ref va), .val (.long vq), .second, .val (.ref vw), .unset] [(.ref va)])) _
    refine st9 _ ?_
    show Steps p.tables e below (T9.setTop (mkF m 55 #[.val (.ref va), .val (.long vq), .second, .val (.ref vw), .unset] [(.int (1 : Int32))])) _
    refine XS.istore X9.here hx rfl (hb hby d6_55) rfl (l' := #[.val (.ref va), .val (.long vq), .second, .val (.ref vw), .val (.int (1 : Int32))]) rfl ?_
    show Steps p.tables e below (T9.setTop (mkF m 57 #[.val (.ref va), .val (.long vq), .second, .val (.ref vw), .val (.int (1 : Int32))] [])) _
    refine XS.aloadN X9.here hx rfl (hb hby d6_57) rfl rfl ?_
    show Steps p.tables e below (T9.setTop (mkF m 58 #[.val (.ref va), .val (.long vq), .second, .val (.ref vw), .val (.int (1 : Int32))] [(.ref va)])) _
    refine st10 _ ?_
    show Steps p.tables e below (T10.setTop (mkF m 61 #[.val (.ref va), .val (.long vq), .second, .val (.ref vw), .val (.int (1 : Int32))] [(.ref vn)])) _
    refine XS.iload X10.here hx rfl (hb hby d6_61) rfl ?_
    show Steps p.tables e below (T10.setTop (mkF m 63 #[.val (.ref va), .val (.long vq), .second, .val (.ref vw), .val (.int (1 : Int32))] [(.int (1 : Int32)), (.ref vn)])) _
    refine XS.aloadN X10.here hx rfl (hb hby d6_63) rfl rfl ?_
    show Steps p.tables e below (T10.setTop (mkF m 64 #[.val (.ref va), .val (.long vq), .second, .val (.ref vw), .val (.int (1 : Int32))] [(.ref va), (.int (1 : Int32)), (.ref vn)])) _
    refine st11 _ ?_
    show Steps p.tables e below (T11.setTop (mkF m 67 #[.val (.ref va), .val (.long vq), .second, .val (.ref vw), .val (.int (1 : Int32))] [(.ref vn), (.int (1 : Int32)), (.ref vn)])) _
    refine XS.iload X11.here hx rfl (hb hby d6_67) rfl ?_
    show Steps p.tables e below (T11.setTop (mkF m 69 #[.val (.ref va), .val (.long vq), .second, .val (.ref vw), .val (.int (1 : Int32))] [(.int (1 : Int32)), (.ref vn), (.int (1 : Int32)), (.ref vn)])) _
    refine XS.iconst X11.here hx rfl (hb hby d6_69) ?_
    show Steps p.tables e below (T11.setTop (mkF m 70 #[.val (.ref va), .val (.long vq), .second, .val (.ref vw), .val (.int (1 : Int32))] [(.int (1 : Int32)), (.int (1 : Int32)), (.ref vn), (.int (1 : Int32)), (.ref vn)])) _
    refine XS.iadd X11.here hx rfl (hb hby d6_70) rfl ?_
    show Steps p.tables e below (T11.setTop (mkF m 71 #[.val (.ref va), .val (.long vq), .second, .val (.ref vw), .val (.int (1 : Int32))] [(.int (2 : Int32)), (.ref vn), (.int (1 : Int32)), (.ref vn)])) _
    refine XS.aloadN X11.here hx rfl (hb hby d6_71) rfl rfl ?_
    show Steps p.tables e below (T11.setTop (mkF m 72 #[.val (.ref va), .val (.long vq), .second, .val (.ref vw), .val (.int (1 : Int32))] [(.ref va), (.int (2 : Int32)), (.ref vn), (.int (1 : Int32)), (.ref vn)])) _
    refine st12 _ ?_
    show Steps p.tables e below (T12.setTop (mkF m 75 #[.val (.ref va), .val (.long vq), .second, .val (.ref vw), .val (.int (1 : Int32))] [(.int (1 : Int32)), (.int (2 : Int32)), (.ref vn), (.int (1 : Int32)), (.ref vn)])) _
    refine XS.iload X12.here hx rfl (hb hby d6_75) rfl ?_
    show Steps p.tables e below (T12.setTop (mkF m 77 #[.val (.ref va), .val (.long vq), .second, .val (.ref vw), .val (.int (1 : Int32))] [(.int (1 : Int32)), (.int (1 : Int32)), (.int (2 : Int32)), (.ref vn), (.int (1 : Int32)), (.ref vn)])) _
    refine XS.isub X12.here hx rfl (hb hby d6_77) rfl ?_
    show Steps p.tables e below (T12.setTop (mkF m 78 #[.val (.ref va), .val (.long vq), .second, .val (.ref vw), .val (.int (1 : Int32))] [(.int (0 : Int32)), (.int (2 : Int32)), (.ref vn), (.int (1 : Int32)), (.ref vn)])) _
    refine st13 _ ?_
    show Steps p.tables e below (T13.setTop (mkF m 81 #[.val (.ref va), .val (.long vq), .second, .val (.ref vw), .val (.int (1 : Int32))] [])) _
    refine XS.aloadN X13.here hx rfl (hb hby d6_81) rfl rfl ?_
    show Steps p.tables e below (T13.setTop (mkF m 82 #[.val (.ref va), .val (.long vq), .second, .val (.ref vw), .val (.int (1 : Int32))] [(.ref va)])) _
    refine st21 _ ?_
    show Steps p.tables e below (T21.setTop (mkF m 85 #[.val (.ref va), .val (.long vq), .second, .val (.ref vw), .val (.int (1 : Int32))] [(.ref vo)])) _
    refine XS.iload X21.here hx rfl (hb hby d6_85) rfl ?_
    show Steps p.tables e below (T21.setTop (mkF m 87 #[.val (.ref va), .val (.long vq), .second, .val (.ref vw), .val (.int (1 : Int32))] [(.int (1 : Int32)), (.ref vo)])) _
    refine XS.aloadN X21.here hx rfl (hb hby d6_87) rfl rfl ?_
    show Steps p.tables e below (T21.setTop (mkF m 88 #[.val (.ref va), .val (.long vq), .second, .val (.ref vw), .val (.int (1 : Int32))] [(.ref va), (.int (1 : Int32)), (.ref vo)])) _
    refine st22 _ ?_
    show Steps p.tables e below (T22.setTop (mkF m 91 #[.val (.ref va), .val (.long vq), .second, .val (.ref vw), .val (.int (1 : Int32))] [(.ref vo), (.int (1 : Int32)), (.ref vo)])) _
    refine XS.iload X22.here hx rfl (hb hby d6_91) rfl ?_
    show Steps p.tables e below (T22.setTop (mkF m 93 #[.val (.ref va), .val (.long vq), .second, .val (.ref vw), .val (.int (1 : Int32))] [(.int (1 : Int32)), (.ref vo), (.int (1 : Int32)), (.ref vo)])) _
    refine XS.iconst X22.here hx rfl (hb hby d6_93) ?_
    show Steps p.tables e below (T22.setTop (mkF m 94 #[.val (.ref va), .val (.long vq), .second, .val (.ref vw), .val (.int (1 : Int32))] [(.int (1 : Int32)), (.int (1 : Int32)), (.ref vo), (.int (1 : Int32)), (.ref vo)])) _
    refine XS.iadd X22.here hx rfl (hb hby d6_94) rfl ?_
    show Steps p.tables e below (T22.setTop (mkF m 95 #[.val (.ref va), .val (.long vq), .second, .val (.ref vw), .val (.int (1 : Int32))] [(.int (2 : Int32)), (.ref vo), (.int (1 : Int32)), (.ref vo)])) _
    refine XS.aloadN X22.here hx rfl (hb hby d6_95) rfl rfl ?_
    show Steps p.tables e below (T22.setTop (mkF m 96 #[.val (.ref va), .val (.long vq), .second, .val (.ref vw), .val (.int (1 : Int32))] [(.ref va), (.int (2 : Int32)), (.ref vo), (.int (1 : Int32)), (.ref vo)])) _
    refine st23 _ ?_
    show Steps p.tables e below (T23.setTop (mkF m 99 #[.val (.ref va), .val (.long vq), .second, .val (.ref vw), .val (.int (1 : Int32))] [(.int (1 : Int32)), (.int (2 : Int32)), (.ref vo), (.int (1 : Int32)), (.ref vo)])) _
    refine XS.iload X23.here hx rfl (hb hby d6_99) rfl ?_
    show Steps p.tables e below (T23.setTop (mkF m 101 #[.val (.ref va), .val (.long vq), .second, .val (.ref vw), .val (.int (1 : Int32))] [(.int (1 : Int32)), (.int (1 : Int32)), (.int (2 : Int32)), (.ref vo), (.int (1 : Int32)), (.ref vo)])) _
    refine XS.isub X23.here hx rfl (hb hby d6_101) rfl ?_
    show Steps p.tables e below (T23.setTop (mkF m 102 #[.val (.ref va), .val (.long vq), .second, .val (.ref vw), .val (.int (1 : Int32))] [(.int (0 : Int32)), (.int (2 : Int32)), (.ref vo), (.int (1 : Int32)), (.ref vo)])) _
    refine st24 _ ?_
    show Steps p.tables e below (T24.setTop (mkF m 105 #[.val (.ref va), .val (.long vq), .second, .val (.ref vw), .val (.int (1 : Int32))] [])) _
    refine XS.aloadN X24.here hx rfl (hb hby d6_105) rfl rfl ?_
    show Steps p.tables e below (T24.setTop (mkF m 106 #[.val (.ref va), .val (.long vq), .second, .val (.ref vw), .val (.int (1 : Int32))] [(.ref va)])) _
    refine st32 _ ?_
    show Steps p.tables e below (T32.setTop (mkF m 109 #[.val (.ref va), .val (.long vq), .second, .val (.ref vw), .val (.int (1 : Int32))] [(.ref vn)])) _
    refine XS.iload X32.here hx rfl (hb hby d6_109) rfl ?_
    show Steps p.tables e below (T32.setTop (mkF m 111 #[.val (.ref va), .val (.long vq), .second, .val (.ref vw), .val (.int (1 : Int32))] [(.int (1 : Int32)), (.ref vn)])) _
    refine XS.lloadN X32.here hx rfl (hb hby d6_111) rfl ?_
    show Steps p.tables e below (T32.setTop (mkF m 112 #[.val (.ref va), .val (.long vq), .second, .val (.ref vw), .val (.int (1 : Int32))] [(.long vq), (.int (1 : Int32)), (.ref vn)])) _
    refine st34 _ ?_
    show Steps p.tables e below (T34.setTop (mkF m 113 #[.val (.ref va), .val (.long vq), .second, .val (.ref vw), .val (.int (1 : Int32))] [])) _
    refine XS.aloadN X34.here hx rfl (hb hby d6_113) rfl rfl ?_
    show Steps p.tables e below (T34.setTop (mkF m 114 #[.val (.ref va), .val (.long vq), .second, .val (.ref vw), .val (.int (1 : Int32))] [(.ref va)])) _
    refine st42 _ ?_
    show Steps p.tables e below (T42.setTop (mkF m 117 #[.val (.ref va), .val (.long vq), .second, .val (.ref vw), .val (.int (1 : Int32))] [(.ref vo)])) _
    refine XS.iload X42.here hx rfl (hb hby d6_117) rfl ?_
    show Steps p.tables e below (T42.setTop (mkF m 119 #[.val (.ref va), .val (.long vq), .second, .val (.ref vw), .val (.int (1 : Int32))] [(.int (1 : Int32)), (.ref vo)])) _
    refine XS.aloadN X42.here hx rfl (hb hby d6_119) rfl rfl ?_
    show Steps p.tables e below (T42.setTop (mkF m 120 #[.val (.ref va), .val (.long vq), .second, .val (.ref vw), .val (.int (1 : Int32))] [(.ref vw), (.int (1 : Int32)), (.ref vo)])) _
    refine st43 _ ?_
    show Steps p.tables e below (T43.setTop (mkF m 123 #[.val (.ref va), .val (.long vq), .second, .val (.ref vw), .val (.int (1 : Int32))] [(.long vw7), (.int (1 : Int32)), (.ref vo)])) _
    refine st45 _ ?_
    show Steps p.tables e below (T45.setTop (mkF m 124 #[.val (.ref va), .val (.long vq), .second, .val (.ref vw), .val (.int (1 : Int32))] [])) _
    refine XS.aloadN X45.here hx rfl (hb hby d6_124) rfl rfl ?_
    show Steps p.tables e below (T45.setTop (mkF m 125 #[.val (.ref va), .val (.long vq), .second, .val (.ref vw), .val (.int (1 : Int32))] [(.ref va)])) _
    refine XS.dup X45.here hx rfl (hb hby d6_125) rfl rfl ?_
    show Steps p.tables e below (T45.setTop (mkF m 126 #[.val (.ref va), .val (.long vq), .second, .val (.ref vw), .val (.int (1 : Int32))] [(.ref va), (.ref va)])) _
    refine st53 _ ?_
    show Steps p.tables e below (T53.setTop (mkF m 129 #[.val (.ref va), .val (.long vq), .second, .val (.ref vw), .val (.int (1 : Int32))] [(.int (1 : Int32)), (.ref va)])) _
    refine XS.iconst X53.here hx rfl (hb hby d6_129) ?_
    show Steps p.tables e below (T53.setTop (mkF m 130 #[.val (.ref va), .val (.long vq), .second, .val (.ref vw), .val (.int (1 : Int32))] [(.int (1 : Int32)), (.int (1 : Int32)), (.ref va)])) _
    refine XS.iadd X53.here hx rfl (hb hby d6_130) rfl ?_
    show Steps p.tables e below (T53.setTop (mkF m 131 #[.val (.ref va), .val (.long vq), .second, .val (.ref vw), .val (.int (1 : Int32))] [(.int (2 : Int32)), (.ref va)])) _
    refine st54 _ ?_
    show Steps p.tables e below (T54.setTop (mkF m 134 #[.val (.ref va), .val (.long vq), .second, .val (.ref vw), .val (.int (1 : Int32))] [])) _
    exact X54.returnOut hx Bd.returns (hb hby d6_134) hr
  ·
    show QAdd1 Z va vq vw vn kn vo ko vw7 x0 h0 n0 _ T54.heap _
    rw [e54]
    exact ⟨rfl, N54, K54, c55, c56, c57, c58, Fw54, c60, c61⟩
theorem ef_rmAdd2 (m : MethodId) (x0 : Addr) (x1 : Int64) (x2 : Addr) : entryFrame m #[(.ref x0), (.long x1), (.ref x2)] 5 = mkF m 0 #[.val (.ref x0), .val (.long x1), .second, .val (.ref x2), .unset] [] := by first | (simp [entryFrame, mkF, argsToLocals, Value.category]; done) | rfl
def QAdd2 (Z : State) (va : Addr) (vq : Int64) (vw : Addr) (vn : Addr) (kn : ClassId) (vo : Addr) (ko : ClassId) (vw7 : Int64) (x0 x1 : Int64) (h0 : Heap) (n0 : Nat) (v : Option Value) (h : Heap) (L : List Loc) : Prop := v = none ∧ Fr n0 L ∧ Keep h0 h [va, vn, vo] ∧ Exa Z h va "com/example/causeline/causeline/core/Filing" ∧ Fld Z h va "com/example/causeline/causeline/core/Filing" "numbers" "[J" (.ref vn) ∧ Fld Z h va "com/example/causeline/causeline/core/Filing" "orders" "[J" (.ref vo) ∧ Fld Z h va "com/example/causeline/causeline/core/Filing" "first" "I" (.int (0 : Int32)) ∧ Fld Z h va "com/example/causeline/causeline/core/Filing" "end" "I" (.int (3 : Int32)) ∧ Arv Z h vn kn .long (4 : Int32) [(.long x0), (.long x1), (.long vq), (.long (0 : Int64))] (.long (0 : Int64)) ∧ Arv Z h vo ko .long (4 : Int32) [(.long vw7), (.long vw7), (.long vw7), (.long (0 : Int64))] (.long (0 : Int64))
set_option maxRecDepth 65536 in
set_option maxHeartbeats 40000000 in
theorem rmAdd2 (l : Launch) (Z : State) (a0 : Array Value) (hw : ∀ d ∈ tables_1, d.before a0 Z = true) (ws : List Jvm.Cond) (va : Addr) (vq : Int64) (vw : Addr) (vn : Addr) (kn : ClassId) (vo : Addr) (ko : ClassId) (vw7 : Int64) (x0 x1 : Int64) (h0 : Heap) (n0 : Nat) (Z0 : n0 ≤ h0.size) (Ea : Exa Z h0 va "com/example/causeline/causeline/core/Filing") (Fn : Fld Z h0 va "com/example/causeline/causeline/core/Filing" "numbers" "[J" (.ref vn)) (Fo : Fld Z h0 va "com/example/causeline/causeline/core/Filing" "orders" "[J" (.ref vo)) (Ff : Fld Z h0 va "com/example/causeline/causeline/core/Filing" "first" "I" (.int (0 : Int32))) (Fe : Fld Z h0 va "com/example/causeline/causeline/core/Filing" "end" "I" (.int (2 : Int32))) (Vn : Arv Z h0 vn kn .long (4 : Int32) [(.long x0), (.long x1), (.long (0 : Int64)), (.long (0 : Int64))] (.long (0 : Int64))) (Vo : Arv Z h0 vo ko .long (4 : Int32) [(.long vw7), (.long vw7), (.long (0 : Int64)), (.long (0 : Int64))] (.long (0 : Int64))) (Fw : Fld Z h0 vw "com/example/causeline/causeline/core/Waiting" "order" "J" (.long vw7)) (g_va : n0 ≤ va) (g_vn : n0 ≤ vn) (g_vo : n0 ≤ vo) (n_va_vn : va ≠ vn) (n_va_vo : va ≠ vo) (n_vn_vo : vn ≠ vo) (n_va_vw : va ≠ vw) (n_vw_vn : vw ≠ vn) (n_vw_vo : vw ≠ vo) (hle : ¬ vq < x1) :
    MetFree l (⟨"com/example/causeline/causeline/core/Filing", "add", "(JLcom/example/causeline/causeline/core/Waiting;)V"⟩ : MethodName) (head1 (Jvm.Cond.code (⟨"com/example/causeline/causeline/core/Filing", "add", "(JLcom/example/causeline/causeline/core/Waiting;)V"⟩ : MethodName) prog_36_method_2_code 5 none :: ws) ({ frames := 1, cells := 0, slots := 0, locals := 18 } : Room)) (fun a U => a = #[(.ref va), (.long vq), (.ref vw)] ∧ Z.Warmed39 U.vm ∧ U.heap = h0) (fun _ _ _ _ _ => True) (fun _ U o U' => ∃ v L, o = .returned v ∧ QAdd2 Z va vq vw vn kn vo ko vw7 x0 x1 h0 n0 v U'.heap L ∧ FrameEnd U o U' L ({ frames := 1, cells := 0, slots := 0, locals := 18 } : Room).cells ({ frames := 1, cells := 0, slots := 0, locals := 18 } : Room).slots) := by
  refine MetFree.of_bodySF (plainFor_of_name pn_48) hisR ?_
  intro p e s m args below meth c s₁ Bd hml0 hP hK
  obtain ⟨rfl, hZ, hh⟩ := hP
  have hx := Bd.exec
  have hby := Bd.bytes
  have hml : c.maxLocals = 5 := hml0
  have hown : s.vm.findClass "com/example/causeline/causeline/core/Filing" = some m.cls := findClass_of_methodNamed Bd.named
  have hnm := (name_of_methodNamed Bd.named Bd.method).1
  have X0 : Stand p l e ({ frames := 1, cells := 0, slots := 0, locals := 18 } : Room) s m #[(.ref va), (.long vq), (.ref vw)] below meth c s₁ [] 0 0 := Stand.of_body Bd
  have e0 : s₁.heap = h0 := by rw [← hh, Bd.state]; rfl
  have N0 := Fr.nil n0
  have pre0 : ∀ t, Steps p.tables e below (s₁.setTop (mkF m 0 #[.val (.ref va), .val (.long vq), .second, .val (.ref vw), .unset] [])) t → Steps p.tables e below (s₁.setTop (entryFrame m #[(.ref va), (.long vq), (.ref vw)] 5)) t := fun t k => castTop (ef_rmAdd2 m va vq vw) k
  obtain ⟨T1, X1, e1, st1⟩ := getF X0 hx hZ hown (host := "") (Or.inl (hw _ (List.mem_of_getElem? (i := 66) rfl))) Via.refl e0 Fe (g := (mkF m 1 #[.val (.ref va), .val (.long vq), .second, .val (.ref vw), .unset] [(.ref va)])) rfl rfl (hb hby d6_1)
  obtain ⟨T2, X2, e2, st2⟩ := getF X1 hx hZ hown (host := "") (Or.inl (hw _ (List.mem_of_getElem? (i := 32) rfl))) Via.refl e1 Fo (g := (mkF m 5 #[.val (.ref va), .val (.long vq), .second, .val (.ref vw), .unset] [(.ref va), (.int (2 : Int32))])) rfl rfl (hb hby d6_5)
  obtain ⟨cl3, Ar3, q3, S3, NN3, HH3, GG3⟩ := id Vo
  obtain ⟨T4, X4, e4, st4⟩ := getF X2 hx hZ hown (host := "") (Or.inl (hw _ (List.mem_of_getElem? (i := 72) rfl))) Via.refl e2 Ff (g := (mkF m 17 #[.val (.ref va), .val (.long vq), .second, .val (.ref vw), .unset] [(.ref va)])) rfl rfl (hb hby d6_17)
  obtain ⟨T5, X5, e5, st5⟩ := getF X4 hx hZ hown (host := "") (Or.inl (hw _ (List.mem_of_getElem? (i := 66) rfl))) Via.refl e4 Fe (g := (mkF m 21 #[.val (.ref va), .val (.long vq), .second, .val (.ref vw), .unset] [(.ref va), (.int (0 : Int32))])) rfl rfl (hb hby d6_21)
  obtain ⟨T6, X6, e6, st6⟩ := getF X5 hx hZ hown (host := "") (Or.inl (hw _ (List.mem_of_getElem? (i := 30) rfl))) Via.refl e5 Fn (g := (mkF m 28 #[.val (.ref va), .val (.long vq), .second, .val (.ref vw), .unset] [(.ref va)])) rfl rfl (hb hby d6_28)
  obtain ⟨T7, X7, e7, st7⟩ := getF X6 hx hZ hown (host := "") (Or.inl (hw _ (List.mem_of_getElem? (i := 66) rfl))) Via.refl e6 Fe (g := (mkF m 32 #[.val (.ref va), .val (.long vq), .second, .val (.ref vw), .unset] [(.ref va), (.ref vn)])) rfl rfl (hb hby d6_32)
  obtain ⟨cl8, Ar8, q8, S8, NN8, HH8, GG8⟩ := id Vn
  have hin8 : ¬ ((1 : Int32) < 0 ∨ cl8.slots.size ≤ ((1 : Int32)).toNatClampNeg) := inb_of S8 ⟨by decide, by decide⟩
  have hat8 : cl8.slots[((1 : Int32)).toNatClampNeg]? = some (.long x1) := HH8.at hin8 rfl
  obtain ⟨T9, X9, e9, st9⟩ := getF X7 hx hZ hown (host := "") (Or.inl (hw _ (List.mem_of_getElem? (i := 66) rfl))) Via.refl e7 Fe (g := (mkF m 52 #[.val (.ref va), .val (.long vq), .second, .val (.ref vw), .unset] [(.ref va)])) rfl rfl (hb hby d6_52)
  obtain ⟨T10, X10, e10, st10⟩ := getF X9 hx hZ hown (host := "") (Or.inl (hw _ (List.mem_of_getElem? (i := 30) rfl))) Via.refl e9 Fn (g := (mkF m 58 #[.val (.ref va), .val (.long vq), .second, .val (.ref vw), .val (.int (2 : Int32))] [(.ref va)])) rfl rfl (hb hby d6_58)
  obtain ⟨T11, X11, e11, st11⟩ := getF X10 hx hZ hown (host := "") (Or.inl (hw _ (List.mem_of_getElem? (i := 30) rfl))) Via.refl e10 Fn (g := (mkF m 64 #[.val (.ref va), .val (.long vq), .second, .val (.ref vw), .val (.int (2 : Int32))] [(.ref va), (.int (2 : Int32)), (.ref vn)])) rfl rfl (hb hby d6_64)
  obtain ⟨T12, X12, e12, st12⟩ := getF X11 hx hZ hown (host := "") (Or.inl (hw _ (List.mem_of_getElem? (i := 66) rfl))) Via.refl e11 Fe (g := (mkF m 72 #[.val (.ref va), .val (.long vq), .second, .val (.ref vw), .val (.int (2 : Int32))] [(.ref va), (.int (3 : Int32)), (.ref vn), (.int (2 : Int32)), (.ref vn)])) rfl rfl (hb hby d6_72)
  obtain ⟨T13, h13, L13, X13, e13, N13, K13q, V13, st13⟩ := cpA X12 hx hZ hown (hw _ (List.mem_of_getElem? (i := 78) rfl)) (hw _ (List.mem_of_getElem? (i := 81) rfl)) (hw _ (List.mem_of_getElem? (i := 79) rfl)) (hw _ (List.mem_of_getElem? (i := 80) rfl)) e12 Vn Vn (Or.inl ⟨rfl, rfl⟩) (sp := (2 : Int32)) (dp := (3 : Int32)) (nn := (0 : Int32)) (by decide) (by decide) (by decide) (by decide) (by decide) (us := []) rfl (Nat.le_of_ble_eq_true rfl) N0 g_vn (g := (mkF m 78 #[.val (.ref va), .val (.long vq), .second, .val (.ref vw), .val (.int (2 : Int32))] [(.int (0 : Int32)), (.int (3 : Int32)), (.ref vn), (.int (2 : Int32)), (.ref vn)])) rfl (by rw [hml]; rfl) rfl (hb hby d6_78) (by decide) (W := 0) (by show 2 * 0 + _ ≤ _; exact Nat.le_of_eq rfl) (by decide)
  have V13' : Arv Z h13 vn kn .long (4 : Int32) [(.long x0), (.long x1), (.long (0 : Int64)), (.long (0 : Int64))] (.long (0 : Int64)) := V13
  have Z13 : n0 ≤ h13.size := Nat.le_trans Z0 K13q.1
  have c14 : Exa Z h13 va "com/example/causeline/causeline/core/Filing" := Ea.keep K13q
  have c15 : Fld Z h13 va "com/example/causeline/causeline/core/Filing" "numbers" "[J" (.ref vn) := Fn.keep K13q (ninS n_va_vn nin0)
  have c16 : Fld Z h13 va "com/example/causeline/causeline/core/Filing" "orders" "[J" (.ref vo) := Fo.keep K13q (ninS n_va_vn nin0)
  have c17 : Fld Z h13 va "com/example/causeline/causeline/core/Filing" "first" "I" (.int (0 : Int32)) := Ff.keep K13q (ninS n_va_vn nin0)
  have c18 : Fld Z h13 va "com/example/causeline/causeline/core/Filing" "end" "I" (.int (2 : Int32)) := Fe.keep K13q (ninS n_va_vn nin0)
  have c19 : Arv Z h13 vo ko .long (4 : Int32) [(.long vw7), (.long vw7), (.long (0 : Int64)), (.long (0 : Int64))] (.long (0 : Int64)) := Vo.keep K13q (ninS (Ne.symm n_vn_vo) nin0)
  have c20 : Fld Z h13 vw "com/example/causeline/causeline/core/Waiting" "order" "J" (.long vw7) := Fw.keep K13q (ninS n_vw_vn nin0)
  have K13 : Keep h0 h13 [va, vn, vo] := (Keep.refl h0 [va, vn, vo]).trans K13q (allS (Or.inl (List.mem_of_getElem? (i := 1) rfl)) all0)
  obtain ⟨T21, X21, e21, st21⟩ := getF X13 hx hZ hown (host := "") (Or.inl (hw _ (List.mem_of_getElem? (i := 32) rfl))) Via.refl e13 c16 (g := (mkF m 82 #[.val (.ref va), .val (.long vq), .second, .val (.ref vw), .val (.int (2 : Int32))] [(.ref va)])) rfl rfl (hb hby d6_82)
  obtain ⟨T22, X22, e22, st22⟩ := getF X21 hx hZ hown (host := "") (Or.inl (hw _ (List.mem_of_getElem? (i := 32) rfl))) Via.refl e21 c16 (g := (mkF m 88 #[.val (.ref va), .val (.long vq), .second, .val (.ref vw), .val (.int (2 : Int32))] [(.ref va), (.int (2 : Int32)), (.ref vo)])) rfl rfl (hb hby d6_88)
  obtain ⟨T23, X23, e23, st23⟩ := getF X22 hx hZ hown (host := "") (Or.inl (hw _ (List.mem_of_getElem? (i := 66) rfl))) Via.refl e22 c18 (g := (mkF m 96 #[.val (.ref va), .val (.long vq), .second, .val (.ref vw), .val (.int (2 : Int32))] [(.ref va), (.int (3 : Int32)), (.ref vo), (.int (2 : Int32)), (.ref vo)])) rfl rfl (hb hby d6_96)
  obtain ⟨T24, h24, L24, X24, e24, N24, K24q, V24, st24⟩ := cpA X23 hx hZ hown (hw _ (List.mem_of_getElem? (i := 78) rfl)) (hw _ (List.mem_of_getElem? (i := 81) rfl)) (hw _ (List.mem_of_getElem? (i := 79) rfl)) (hw _ (List.mem_of_getElem? (i := 80) rfl)) e23 c19 c19 (Or.inl ⟨rfl, rfl⟩) (sp := (2 : Int32)) (dp := (3 : Int32)) (nn := (0 : Int32)) (by decide) (by decide) (by decide) (by decide) (by decide) (us := []) rfl (Nat.le_of_ble_eq_true rfl) N13 g_vo (g := (mkF m 102 #[.val (.ref va), .val (.long vq), .second, .val (.ref vw), .val (.int (2 : Int32))] [(.int (0 : Int32)), (.int (3 : Int32)), (.ref vo), (.int (2 : Int32)), (.ref vo)])) rfl (by rw [hml]; rfl) rfl (hb hby d6_102) (by decide) (W := 0) (by show 2 * 0 + _ ≤ _; exact Nat.le_of_eq rfl) (by decide)
  have V24' : Arv Z h24 vo ko .long (4 : Int32) [(.long vw7), (.long vw7), (.long (0 : Int64)), (.long (0 : Int64))] (.long (0 : Int64)) := V24
  have Z24 : n0 ≤ h24.size := Nat.le_trans Z13 K24q.1
  have c25 : Exa Z h24 va "com/example/causeline/causeline/core/Filing" := c14.keep K24q
  have c26 : Fld Z h24 va "com/example/causeline/causeline/core/Filing" "numbers" "[J" (.ref vn) := c15.keep K24q (ninS n_va_vo nin0)
  have c27 : Fld Z h24 va "com/example/causeline/causeline/core/Filing" "orders" "[J" (.ref vo) := c16.keep K24q (ninS n_va_vo nin0)
  have c28 : Fld Z h24 va "com/example/causeline/causeline/core/Filing" "first" "I" (.int (0 : Int32)) := c17.keep K24q (ninS n_va_vo nin0)
  have c29 : Fld Z h24 va "com/example/causeline/causeline/core/Filing" "end" "I" (.int (2 : Int32)) := c18.keep K24q (ninS n_va_vo nin0)
  have c30 : Fld Z h24 vw "com/example/causeline/causeline/core/Waiting" "order" "J" (.long vw7) := c20.keep K24q (ninS n_vw_vo nin0)
  have c31 : Arv Z h24 vn kn .long (4 : Int32) [(.long x0), (.long x1), (.long (0 : Int64)), (.long (0 : Int64))] (.long (0 : Int64)) := V13'.keep K24q (ninS n_vn_vo nin0)
  have K24 : Keep h0 h24 [va, vn, vo] := K13.trans K24q (allS (Or.inl (List.mem_of_getElem? (i := 2) rfl)) all0)
  obtain ⟨T32, X32, e32, st32⟩ := getF X24 hx hZ hown (host := "") (Or.inl (hw _ (List.mem_of_getElem? (i := 30) rfl))) Via.refl e24 c26 (g := (mkF m 106 #[.val (.ref va), .val (.long vq), .second, .val (.ref vw), .val (.int (2 : Int32))] [(.ref va)])) rfl rfl (hb hby d6_106)
  obtain ⟨cl33, Ar33, q33, S33, NN33, HH33, GG33⟩ := id c31
  have hin33 : ¬ ((2 : Int32) < 0 ∨ cl33.slots.size ≤ ((2 : Int32)).toNatClampNeg) := inb_of S33 ⟨by decide, by decide⟩
  obtain ⟨T34, h34, X34, e34, W34, st34⟩ := stJ X32 hx hZ e32 Ar33 (j := (2 : Int32)) hin33  (g := (mkF m 112 #[.val (.ref va), .val (.long vq), .second, .val (.ref vw), .val (.int (2 : Int32))] [(.long vq), (.int (2 : Int32)), (.ref vn)])) rfl rfl (hb hby d6_112)
  have V34 : Arv Z h34 vn kn .long (4 : Int32) [(.long x0), (.long x1), (.long vq), (.long (0 : Int64))] (.long (0 : Int64)) := (Arv.set Ar33 q33 S33 NN33 HH33 GG33 rfl W34 2 rfl (Nat.le_of_ble_eq_true rfl))
  have c35 : Exa Z h34 va "com/example/causeline/causeline/core/Filing" := c25.wr W34
  have c36 : Fld Z h34 va "com/example/causeline/causeline/core/Filing" "numbers" "[J" (.ref vn) := c26.other W34 (Or.inl n_va_vn)
  have c37 : Fld Z h34 va "com/example/causeline/causeline/core/Filing" "orders" "[J" (.ref vo) := c27.other W34 (Or.inl n_va_vn)
  have c38 : Fld Z h34 va "com/example/causeline/causeline/core/Filing" "first" "I" (.int (0 : Int32)) := c28.other W34 (Or.inl n_va_vn)
  have c39 : Fld Z h34 va "com/example/causeline/causeline/core/Filing" "end" "I" (.int (2 : Int32)) := c29.other W34 (Or.inl n_va_vn)
  have c40 : Fld Z h34 vw "com/example/causeline/causeline/core/Waiting" "order" "J" (.long vw7) := c30.other W34 (Or.inl n_vw_vn)
  have c41 : Arv Z h34 vo ko .long (4 : Int32) [(.long vw7), (.long vw7), (.long (0 : Int64)), (.long (0 : Int64))] (.long (0 : Int64)) := V24'.other W34 (Ne.symm n_vn_vo)
  have Z34 : n0 ≤ h34.size := Nat.le_trans Z24 (Keep.of_wr W34).1
  have N34 := Fr.snoc X34 N24 g_vn
  have K34 : Keep h0 h34 [va, vn, vo] := K24.wr W34 (Or.inl (List.mem_of_getElem? (i := 1) rfl))
  obtain ⟨T42, X42, e42, st42⟩ := getF X34 hx hZ hown (host := "") (Or.inl (hw _ (List.mem_of_getElem? (i := 32) rfl))) Via.refl e34 c37 (g := (mkF m 114 #[.val (.ref va), .val (.long vq), .second, .val (.ref vw), .val (.int (2 : Int32))] [(.ref va)])) rfl rfl (hb hby d6_114)
  obtain ⟨T43, X43, e43, st43⟩ := getF X42 hx hZ hown (host := "") (Or.inl (hw _ (List.mem_of_getElem? (i := 82) rfl))) Via.refl e42 c40 (g := (mkF m 120 #[.val (.ref va), .val (.long vq), .second, .val (.ref vw), .val (.int (2 : Int32))] [(.ref vw), (.int (2 : Int32)), (.ref vo)])) rfl rfl (hb hby d6_120)
  obtain ⟨cl44, Ar44, q44, S44, NN44, HH44, GG44⟩ := id c41
  have hin44 : ¬ ((2 : Int32) < 0 ∨ cl44.slots.size ≤ ((2 : Int32)).toNatClampNeg) := inb_of S44 ⟨by decide, by decide⟩
  obtain ⟨T45, h45, X45, e45, W45, st45⟩ := stJ X43 hx hZ e43 Ar44 (j := (2 : Int32)) hin44  (g := (mkF m 123 #[.val (.ref va), .val (.long vq), .second, .val (.ref vw), .val (.int (2 : Int32))] [(.long vw7), (.int (2 : Int32)), (.ref vo)])) rfl rfl (hb hby d6_123)
  have V45 : Arv Z h45 vo ko .long (4 : Int32) [(.long vw7), (.long vw7), (.long vw7), (.long (0 : Int64))] (.long (0 : Int64)) := (Arv.set Ar44 q44 S44 NN44 HH44 GG44 rfl W45 2 rfl (Nat.le_of_ble_eq_true rfl))
  have c46 : Exa Z h45 va "com/example/causeline/causeline/core/Filing" := c35.wr W45
  have c47 : Fld Z h45 va "com/example/causeline/causeline/core/Filing" "numbers" "[J" (.ref vn) := c36.other W45 (Or.inl n_va_vo)
  have c48 : Fld Z h45 va "com/example/causeline/causeline/core/Filing" "orders" "[J" (.ref vo) := c37.other W45 (Or.inl n_va_vo)
  have c49 : Fld Z h45 va "com/example/causeline/causeline/core/Filing" "first" "I" (.int (0 : Int32)) := c38.other W45 (Or.inl n_va_vo)
  have c50 : Fld Z h45 va "com/example/causeline/causeline/core/Filing" "end" "I" (.int (2 : Int32)) := c39.other W45 (Or.inl n_va_vo)
  have c51 : Fld Z h45 vw "com/example/causeline/causeline/core/Waiting" "order" "J" (.long vw7) := c40.other W45 (Or.inl n_vw_vo)
  have c52 : Arv Z h45 vn kn .long (4 : Int32) [(.long x0), (.long x1), (.long vq), (.long (0 : Int64))] (.long (0 : Int64)) := V34.other W45 n_vn_vo
  have Z45 : n0 ≤ h45.size := Nat.le_trans Z34 (Keep.of_wr W45).1
  have N45 := Fr.snoc X45 N34 g_vo
  have K45 : Keep h0 h45 [va, vn, vo] := K34.wr W45 (Or.inl (List.mem_of_getElem? (i := 2) rfl))
  obtain ⟨T53, X53, e53, st53⟩ := getF X45 hx hZ hown (host := "") (Or.inl (hw _ (List.mem_of_getElem? (i := 66) rfl))) Via.refl e45 c50 (g := (mkF m 126 #[.val (.ref va), .val (.long vq), .second, .val (.ref vw), .val (.int (2 : Int32))] [(.ref va), (.ref va)])) rfl rfl (hb hby d6_126)
  obtain ⟨T54, h54, X54, e54, W54, st54⟩ := putF X53 hx hZ hown (host := "") (Or.inl (hw _ (List.mem_of_getElem? (i := 66) rfl))) Via.refl e53 c50 c46 (Or.inl (hw _ (List.mem_of_getElem? (i := 67) rfl))) (hw _ (List.mem_of_getElem? (i := 6) rfl)) (ty := .int) (by decide) rfl rfl (g := (mkF m 131 #[.val (.ref va), .val (.long vq), .second, .val (.ref vw), .val (.int (2 : Int32))] [(.int (3 : Int32)), (.ref va)])) rfl rfl (hb hby d6_131)
  have Fw54 : Fld Z h54 va "com/example/causeline/causeline/core/Filing" "end" "I" (.int (3 : Int32)) := c50.same W54
  have c55 : Exa Z h54 va "com/example/causeline/causeline/core/Filing" := c46.wr W54
  have c56 : Fld Z h54 va "com/example/causeline/causeline/core/Filing" "numbers" "[J" (.ref vn) := c47.other W54 (Or.inr (slot_ne (Or.inl (hw _ (List.mem_of_getElem? (i := 31) rfl))) (Or.inl (hw _ (List.mem_of_getElem? (i := 67) rfl))) (by decide) (t := (.array .long)) (t' := .int) (by decide) (by decide)))
  have c57 : Fld Z h54 va "com/example/causeline/causeline/core/Filing" "orders" "[J" (.ref vo) := c48.other W54 (Or.inr (slot_ne (Or.inl (hw _ (List.mem_of_getElem? (i := 33) rfl))) (Or.inl (hw _ (List.mem_of_getElem? (i := 67) rfl))) (by decide) (t := (.array .long)) (t' := .int) (by decide) (by decide)))
  have c58 : Fld Z h54 va "com/example/causeline/causeline/core/Filing" "first" "I" (.int (0 : Int32)) := c49.other W54 (Or.inr (slot_ne (Or.inl (hw _ (List.mem_of_getElem? (i := 73) rfl))) (Or.inl (hw _ (List.mem_of_getElem? (i := 67) rfl))) (by decide) (t := .int) (t' := .int) (by decide) (by decide)))
  have c59 : Fld Z h54 vw "com/example/causeline/causeline/core/Waiting" "order" "J" (.long vw7) := c51.other W54 (Or.inl (Ne.symm n_va_vw))
  have c60 : Arv Z h54 vn kn .long (4 : Int32) [(.long x0), (.long x1), (.long vq), (.long (0 : Int64))] (.long (0 : Int64)) := c52.other W54 (Ne.symm n_va_vn)
  have c61 : Arv Z h54 vo ko .long (4 : Int32) [(.long vw7), (.long vw7), (.long vw7), (.long (0 : Int64))] (.long (0 : Int64)) := V45.other W54 (Ne.symm n_va_vo)
  have Z54 : n0 ≤ h54.size := Nat.le_trans Z45 (Keep.of_wr W54).1
  have N54 := Fr.snoc X54 N45 g_va
  have K54 : Keep h0 h54 [va, vn, vo] := K45.wr W54 (Or.inl (List.mem_of_getElem? (i := 0) rfl))
  obtain ⟨fs, hr, hrun, hended, hW, hsame⟩ := X54.leave (v := none) (fun _ => rfl) (hlocks := BodyLoose.notSynchronized Bd)
  refine ⟨_, _, pre0 _ ?_, hrun, hended, _, _, rfl, ?_, ⟨_, rfl⟩, hW, hsame.mono (by decide) (by decide)⟩
  ·
    show Steps p.tables e below (s₁.setTop (mkF m 0 #[.val (.ref va), .val (.long vq), .second, .val (.ref vw), .unset] [])) _
    refine XS.aloadN X0.here hx rfl (hb hby d6_0) rfl rfl ?_
    show Steps p.tables e below (s₁.setTop (mkF m 1 #[.val (.ref va), .val (.long vq), .second, .val (.ref vw), .unset] [(.ref va)])) _
    refine st1 _ ?_
    show Steps p.tables e below (T1.setTop (mkF m 4 #[.val (.ref va), .val (.long vq), .second, .val (.ref vw), .unset] [(.int (2 : Int32))])) _
    refine XS.aloadN X1.here hx rfl (hb hby d6_4) rfl rfl ?_
    show Steps p.tables e below (T1.setTop (mkF m 5 #[.val (.ref va), .val (.long vq), .second, .val (.ref vw), .unset] [(.ref va), (.int (2 : Int32))])) _
    refine st2 _ ?_
    show Steps p.tables e below (T2.setTop (mkF m 8 #[.val (.ref va), .val (.long vq), .second, .val (.ref vw), .unset] [(.ref vo), (.int (2 : Int32))])) _
    refine X2.arraylength hx (by rw [e2]; exact Ar3.1) (State.isArrayOf_alike hZ.alike Ar3.2.1) (g := (mkF m 8 #[.val (.ref va), .val (.long vq), .second, .val (.ref vw), .unset] [(.ref vo), (.int (2 : Int32))])) rfl rfl (hb hby d6_8) _ ?_
    rw [len_of S3 NN3]
    show Steps p.tables e below (T2.setTop (mkF m 9 #[.val (.ref va), .val (.long vq), .second, .val (.ref vw), .unset] [(.int (4 : Int32)), (.int (2 : Int32))])) _
    refine XS.icmpYes X2.here hx rfl (pc0 := 9) (pc' := 16) rfl (hb hby d6_9) rfl (feq ((by decide) : ¬ ((2 : Int32) = (4 : Int32)))).2 (by decide) (by decide) ?_
    show Steps p.tables e below (T2.setTop (mkF m 16 #[.val (.ref va), .val (.long vq), .second, .val (.ref vw), .unset] [])) _
    refine XS.aloadN X2.here hx rfl (hb hby d6_16) rfl rfl ?_
    show Steps p.tables e below (T2.setTop (mkF m 17 #[.val (.ref va), .val (.long vq), .second, .val (.ref vw), .unset] [(.ref va)])) _
    refine st4 _ ?_
    show Steps p.tables e below (T4.setTop (mkF m 20 #[.val (.ref va), .val (.long vq), .second, .val (.ref vw), .unset] [(.int (0 : Int32))])) _
    refine XS.aloadN X4.here hx rfl (hb hby d6_20) rfl rfl ?_
    show Steps p.tables e below (T4.setTop (mkF m 21 #[.val (.ref va), .val (.long vq), .second, .val (.ref vw), .unset] [(.ref va), (.int (0 : Int32))])) _
    refine st5 _ ?_
    show Steps p.tables e below (T5.setTop (mkF m 24 #[.val (.ref va), .val (.long vq), .second, .val (.ref vw), .unset] [(.int (2 : Int32)), (.int (0 : Int32))])) _
    refine XS.icmpNo X5.here hx rfl (hb hby d6_24) rfl (tlt ((by decide) : (0 : Int32) < (2 : Int32))).2.1 ?_
    show Steps p.tables e below (T5.setTop (mkF m 27 #[.val (.ref va), .val (.long vq), .second, .val (.ref vw), .unset] [])) _
    refine XS.aloadN X5.here hx rfl (hb hby d6_27) rfl rfl ?_
    show Steps p.tables e below (T5.setTop (mkF m 28 #[.val (.ref va), .val (.long vq), .second, .val (.ref vw), .unset] [(.ref va)])) _
    refine st6 _ ?_
    show Steps p.tables e below (T6.setTop (mkF m 31 #[.val (.ref va), .val (.long vq), .second, .val (.ref vw), .unset] [(.ref vn)])) _
    refine XS.aloadN X6.here hx rfl (hb hby d6_31) rfl rfl ?_
    show Steps p.tables e below (T6.setTop (mkF m 32 #[.val (.ref va), .val (.long vq), .second, .val (.ref vw), .unset] [(.ref va), (.ref vn)])) _
    refine st7 _ ?_
    show Steps p.tables e below (T7.setTop (mkF m 35 #[.val (.ref va), .val (.long vq), .second, .val (.ref vw), .unset] [(.int (2 : Int32)), (.ref vn)])) _
    refine XS.iconst X7.here hx rfl (hb hby d6_35) ?_
    show Steps p.tables e below (T7.setTop (mkF m 36 #[.val (.ref va), .val (.long vq), .second, .val (.ref vw), .unset] [(.int (1 : Int32)), (.int (2 : Int32)), (.ref vn)])) _
    refine XS.isub X7.here hx rfl (hb hby d6_36) rfl ?_
    show Steps p.tables e below (T7.setTop (mkF m 37 #[.val (.ref va), .val (.long vq), .second, .val (.ref vw), .unset] [(.int (1 : Int32)), (.ref vn)])) _
    refine X7.laload hx (j := (1 : Int32)) (v := (.long x1)) (by rw [e7]; exact Ar8.1) (State.isArrayOf_alike hZ.alike Ar8.2.1) Ar8.2.2 hin8 hat8 (g := (mkF m 37 #[.val (.ref va), .val (.long vq), .second, .val (.ref vw), .unset] [(.int (1 : Int32)), (.ref vn)])) rfl rfl (hb hby d6_37) _ ?_
    show Steps p.tables e below (T7.setTop (mkF m 38 #[.val (.ref va), .val (.long vq), .second, .val (.ref vw), .unset] [(.long x1)])) _
    refine XS.lloadN X7.here hx rfl (hb hby d6_38) rfl ?_
    show Steps p.tables e below (T7.setTop (mkF m 39 #[.val (.ref va), .val (.long vq), .second, .val (.ref vw), .unset] [(.long vq), (.long x1)])) _
    refine XS.lcmp X7.here hx rfl (hb hby d6_39) rfl ?_
    show Steps p.tables e below (T7.setTop (mkF m 40 #[.val (.ref va), .val (.long vq), .second, .val (.ref vw), .unset] [(.int (lcmpW x1 vq))])) _
    refine XS.ifYes X7.here hx rfl (pc0 := 40) (pc' := 51) rfl (hb hby d6_40) rfl ((if0 _ _).trans (flt ((fun q => hle ((lw_gt _ _).mp q)) : ¬ ((0 : Int32) < (lcmpW x1 vq)))).2.2.2) (by decide) (by decide) ?_
    show Steps p.tables e below (T7.setTop (mkF m 51 #[.val (.ref va), .val (.long vq), .second, .val (.ref vw), .unset] [])) _
    refine XS.aloadN X7.here hx rfl (hb hby d6_51) rfl rfl ?_
    show Steps p.tables e below (T7.setTop (mkF m 52 #[.val (.ref va), .val (.long vq), .second, .val (.ref vw), .unset] [(.ref va)])) _
    refine st9 _ ?_
    show Steps p.tables e below (T9.setTop (mkF m 55 #[.val (.ref va), .val (.long vq), .second, .val (.ref vw), .unset] [(.int (2 : Int32))])) _
    refine XS.istore X9.here hx rfl (hb hby d6_55) rfl (l' := #[.val (.ref va), .val (.long vq), .second, .val (.ref vw), .val (.int (2 : Int32))]) rfl ?_
    show Steps p.tables e below (T9.setTop (mkF m 57 #[.val (.ref va), .val (.long vq), .second, .val (.ref vw), .val (.int (2 : Int32))] [])) _
    refine XS.aloadN X9.here hx rfl (hb hby d6_57) rfl rfl ?_
    show Steps p.tables e below (T9.setTop (mkF m 58 #[.val (.ref va), .val (.long vq), .second, .val (.ref vw), .val (.int (2 : Int32))] [(.ref va)])) _
    refine st10 _ ?_
    show Steps p.tables e below (T10.setTop (mkF m 61 #[.val (.ref va), .val (.long vq), .second, .val (.ref vw), .val (.int (2 : Int32))] [(.ref vn)])) _
    refine XS.iload X10.here hx rfl (hb hby d6_61) rfl ?_
    show Steps p.tables e below (T10.setTop (mkF m 63 #[.val (.ref va), .val (.long vq), .second, .val (.ref vw), .val (.int (2 : Int32))] [(.int (2 : Int32)), (.ref vn)])) _
    refine XS.aloadN X10.here hx rfl (hb hby d6_63) rfl rfl ?_
    show Steps p.tables e below (T10.setTop (mkF m 64 #[.val (.ref va), .val (.long vq), .second, .val (.ref vw), .val (.int (2 : Int32))] [(.ref va), (.int (2 : Int32)), (.ref vn)])) _
    refine st11 _ ?_
    show Steps p.tables e below (T11.setTop (mkF m 67 #[.val (.ref va), .val (.long vq), .second, .val (.ref vw), .val (.int (2 : Int32))] [(.ref vn), (.int (2 : Int32)), (.ref vn)])) _
    refine XS.iload X11.here hx rfl (hb hby d6_67) rfl ?_
    show Steps p.tables e below (T11.setTop (mkF m 69 #[.val (.ref va), .val (.long vq), .second, .val (.ref vw), .val (.int (2 : Int32))] [(.int (2 : Int32)), (.ref vn), (.int (2 : Int32)), (.ref vn)])) _
    refine XS.iconst X11.here hx rfl (hb hby d6_69) ?_
    show Steps p.tables e below (T11.setTop (mkF m 70 #[.val (.ref va), .val (.long vq), .second, .val (.ref vw), .val (.int (2 : Int32))] [(.int (1 : Int32)), (.int (2 : Int32)), (.ref vn), (.int (2 : Int32)), (.ref vn)])) _
    refine XS.iadd X11.here hx rfl (hb hby d6_70) rfl ?_
    show Steps p.tables e below (T11.setTop (mkF m 71 #[.val (.ref va), .val (.long vq), .second, .val (.ref vw), .val (.int (2 : Int32))] [(.int (3 : Int32)), (.ref vn), (.int (2 : Int32)), (.ref vn)])) _
    refine XS.aloadN X11.here hx rfl (hb hby d6_71) rfl rfl ?_
    show Steps p.tables e below (T11.setTop (mkF m 72 #[.val (.ref va), .val (.long vq), .second, .val (.ref vw), .val (.int (2 : Int32))] [(.ref va), (.int (3 : Int32)), (.ref vn), (.int (2 : Int32)), (.ref vn)])) _
    refine st12 _ ?_
    show Steps p.tables e below (T12.setTop (mkF m 75 #[.val (.ref va), .val (.long vq), .second, .val (.ref vw), .val (.int (2 : Int32))] [(.int (2 : Int32)), (.int (3 : Int32)), (.ref vn), (.int (2 : Int32)), (.ref vn)])) _
    refine XS.iload X12.here hx rfl (hb hby d6_75) rfl ?_
    show Steps p.tables e below (T12.setTop (mkF m 77 #[.val (.ref va), .val (.long vq), .second, .val (.ref vw), .val (.int (2 : Int32))] [(.int (2 : Int32)), (.int (2 : Int32)), (.int (3 : Int32)), (.ref vn), (.int (2 : Int32)), (.ref vn)])) _
    refine XS.isub X12.here hx rfl (hb hby d6_77) rfl ?_
    show Steps p.tables e below (T12.setTop (mkF m 78 #[.val (.ref va), .val (.long vq), .second, .val (.ref vw), .val (.int (2 : Int32))] [(.int (0 : Int32)), (.int (3 : Int32)), (.ref vn), (.int (2 : Int32)), (.ref vn)])) _
    refine st13 _ ?_
    show Steps p.tables e below (T13.setTop (mkF m 81 #[.val (.ref va), .val (.long vq), .second, .val (.ref vw), .val (.int (2 : Int32))] [])) _
    refine XS.aloadN X13.here hx rfl (hb hby d6_81) rfl rfl ?_
    show Steps p.tables e below (T13.setTop (mkF m 82 #[.val (.ref va), .val (.long vq), .second, .val (.ref vw), .val (.int (2 : Int32))] [(.ref va)])) _
    refine st21 _ ?_
    show Steps p.tables e below (T21.setTop (mkF m 85 #[.val (.ref va), .val (.long vq), .second, .val (.ref vw), .val (.int (2 : Int32))] [(.ref vo)])) _
    refine XS.iload X21.here hx rfl (hb hby d6_85) rfl ?_
    show Steps p.tables e below (T21.setTop (mkF m 87 #[.val (.ref va), .val (.long vq), .second, .val (.ref vw), .val (.int (2 : Int32))] [(.int (2 : Int32)), (.ref vo)])) _
    refine XS.aloadN X21.here hx rfl (hb hby d6_87) rfl rfl ?_
    show Steps p.tables e below (T21.setTop (mkF m 88 #[.val (.ref va), .val (.long vq), .second, .val (.ref vw), .val (.int (2 : Int32))] [(.ref va), (.int (2 : Int32)), (.ref vo)])) _
    refine st22 _ ?_
    show Steps p.tables e below (T22.setTop (mkF m 91 #[.val (.ref va), .val (.long vq), .second, .val (.ref vw), .val (.int (2 : Int32))] [(.ref vo), (.int (2 : Int32)), (.ref vo)])) _
    refine XS.iload X22.here hx rfl (hb hby d6_91) rfl ?_
    show Steps p.tables e below (T22.setTop (mkF m 93 #[.val (.ref va), .val (.long vq), .second, .val (.ref vw), .val (.int (2 : Int32))] [(.int (2 : Int32)), (.ref vo), (.int (2 : Int32)), (.ref vo)])) _
    refine XS.iconst X22.here hx rfl (hb hby d6_93) ?_
    show Steps p.tables e below (T22.setTop (mkF m 94 #[.val (.ref va), .val (.long vq), .second, .val (.ref vw), .val (.int (2 : Int32))] [(.int (1 : Int32)), (.int (2 : Int32)), (.ref vo), (.int (2 : Int32)), (.ref vo)])) _
    refine XS.iadd X22.here hx rfl (hb hby d6_94) rfl ?_
    show Steps p.tables e below (T22.setTop (mkF m 95 #[.val (.ref va), .val (.long vq), .second, .val (.ref vw), .val (.int (2 : Int32))] [(.int (3 : Int32)), (.ref vo), (.int (2 : Int32)), (.ref vo)])) _
    refine XS.aloadN X22.here hx rfl (hb hby d6_95) rfl rfl ?_
    show Steps p.tables e below (T22.setTop (mkF m 96 #[.val (.ref va), .val (.long vq), .second, .val (.ref vw), .val (.int (2 : Int32))] [(.ref va), (.int (3 : Int32)), (.ref vo), (.int (2 : Int32)), (.ref vo)])) _
    refine st23 _ ?_
    show Steps p.tables e below (T23.setTop (mkF m 99 #[.val (.ref va), .val (.long vq), .second, .val (.ref vw), .val (.int (2 : Int32))] [(.int (2 : Int32)), (.int (3 : Int32)), (.ref vo), (.int (2 : Int32)), (.ref vo)])) _
    refine XS.iload X23.here hx rfl (hb hby d6_99) rfl ?_
    show Steps p.tables e below (T23.setTop (mkF m 101 #[.val (.ref va), .val (.long vq), .second, .val (.ref vw), .val (.int (2 : Int32))] [(.int (2 : Int32)), (.int (2 : Int32)), (.int (3 : Int32)), (.ref vo), (.int (2 : Int32)), (.ref vo)])) _
    refine XS.isub X23.here hx rfl (hb hby d6_101) rfl ?_
    show Steps p.tables e below (T23.setTop (mkF m 102 #[.val (.ref va), .val (.long vq), .second, .val (.ref vw), .val (.int (2 : Int32))] [(.int (0 : Int32)), (.int (3 : Int32)), (.ref vo), (.int (2 : Int32)), (.ref vo)])) _
    refine st24 _ ?_
    show Steps p.tables e below (T24.setTop (mkF m 105 #[.val (.ref va), .val (.long vq), .second, .val (.ref vw), .val (.int (2 : Int32))] [])) _
    refine XS.aloadN X24.here hx rfl (hb hby d6_105) rfl rfl ?_
    show Steps p.tables e below (T24.setTop (mkF m 106 #[.val (.ref va), .val (.long vq), .second, .val (.ref vw), .val (.int (2 : Int32))] [(.ref va)])) _
    refine st32 _ ?_
    show Steps p.tables e below (T32.setTop (mkF m 109 #[.val (.ref va), .val (.long vq), .second, .val (.ref vw), .val (.int (2 : Int32))] [(.ref vn)])) _
    refine XS.iload X32.here hx rfl (hb hby d6_109) rfl ?_
    show Steps p.tables e below (T32.setTop (mkF m 111 #[.val (.ref va), .val (.long vq), .second, .val (.ref vw), .val (.int (2 : Int32))] [(.int (2 : Int32)), (.ref vn)])) _
    refine XS.lloadN X32.here hx rfl (hb hby d6_111) rfl ?_
    show Steps p.tables e below (T32.setTop (mkF m 112 #[.val (.ref va), .val (.long vq), .second, .val (.ref vw), .val (.int (2 : Int32))] [(.long vq), (.int (2 : Int32)), (.ref vn)])) _
    refine st34 _ ?_
    show Steps p.tables e below (T34.setTop (mkF m 113 #[.val (.ref va), .val (.long vq), .second, .val (.ref vw), .val (.int (2 : Int32))] [])) _
    refine XS.aloadN X34.here hx rfl (hb hby d6_113) rfl rfl ?_
    show Steps p.tables e below (T34.setTop (mkF m 114 #[.val (.ref va), .val (.long vq), .second, .val (.ref vw), .val (.int (2 : Int32))] [(.ref va)])) _
    refine st42 _ ?_
    show Steps p.tables e below (T42.setTop (mkF m 117 #[.val (.ref va), .val (.long vq), .second, .val (.ref vw), .val (.int (2 : Int32))] [(.ref vo)])) _
    refine XS.iload X42.here hx rfl (hb hby d6_117) rfl ?_
    show Steps p.tables e below (T42.setTop (mkF m 119 #[.val (.ref va), .val (.long vq), .second, .val (.ref vw), .val (.int (2 : Int32))] [(.int (2 : Int32)), (.ref vo)])) _
    refine XS.aloadN X42.here hx rfl (hb hby d6_119) rfl rfl ?_
    show Steps p.tables e below (T42.setTop (mkF m 120 #[.val (.ref va), .val (.long vq), .second, .val (.ref vw), .val (.int (2 : Int32))] [(.ref vw), (.int (2 : Int32)), (.ref vo)])) _
    refine st43 _ ?_
    show Steps p.tables e below (T43.setTop (mkF m 123 #[.val (.ref va), .val (.long vq), .second, .val (.ref vw), .val (.int (2 : Int32))] [(.long vw7), (.int (2 : Int32)), (.ref vo)])) _
    refine st45 _ ?_
    show Steps p.tables e below (T45.setTop (mkF m 124 #[.val (.ref va), .val (.long vq), .second, .val (.ref vw), .val (.int (2 : Int32))] [])) _
    refine XS.aloadN X45.here hx rfl (hb hby d6_124) rfl rfl ?_
    show Steps p.tables e below (T45.setTop (mkF m 125 #[.val (.ref va), .val (.long vq), .second, .val (.ref vw), .val (.int (2 : Int32))] [(.ref va)])) _
    refine XS.dup X45.here hx rfl (hb hby d6_125) rfl rfl ?_
    show Steps p.tables e below (T45.setTop (mkF m 126 #[.val (.ref va), .val (.long vq), .second, .val (.ref vw), .val (.int (2 : Int32))] [(.ref va), (.ref va)])) _
    refine st53 _ ?_
    show Steps p.tables e below (T53.setTop (mkF m 129 #[.val (.ref va), .val (.long vq), .second, .val (.ref vw), .val (.int (2 : Int32))] [(.int (2 : Int32)), (.ref va)])) _
    refine XS.iconst X53.here hx rfl (hb hby d6_129) ?_
    show Steps p.tables e below (T53.setTop (mkF m 130 #[.val (.ref va), .val (.long vq), .second, .val (.ref vw), .val (.int (2 : Int32))] [(.int (1 : Int32)), (.int (2 : Int32)), (.ref va)])) _
    refine XS.iadd X53.here hx rfl (hb hby d6_130) rfl ?_
    show Steps p.tables e below (T53.setTop (mkF m 131 #[.val (.ref va), .val (.long vq), .second, .val (.ref vw), .val (.int (2 : Int32))] [(.int (3 : Int32)), (.ref va)])) _
    refine st54 _ ?_
    show Steps p.tables e below (T54.setTop (mkF m 134 #[.val (.ref va), .val (.long vq), .second, .val (.ref vw), .val (.int (2 : Int32))] [])) _
    exact X54.returnOut hx Bd.returns (hb hby d6_134) hr
  ·
    show QAdd2 Z va vq vw vn kn vo ko vw7 x0 x1 h0 n0 _ T54.heap _
    rw [e54]
    exact ⟨rfl, N54, K54, c55, c56, c57, c58, Fw54, c60, c61⟩
theorem ef_rmAdd3 (m : MethodId) (x0 : Addr) (x1 : Int64) (x2 : Addr) : entryFrame m #[(.ref x0), (.long x1), (.ref x2)] 5 = mkF m 0 #[.val (.ref x0), .val (.long x1), .second, .val (.ref x2), .unset] [] := by first | (simp [entryFrame, mkF, argsToLocals, Value.category]; done) | rfl
def QAdd3 (Z : State) (va : Addr) (vq : Int64) (vw : Addr) (vn : Addr) (kn : ClassId) (vo : Addr) (ko : ClassId) (vw7 : Int64) (x0 x1 x2 : Int64) (h0 : Heap) (n0 : Nat) (v : Option Value) (h : Heap) (L : List Loc) : Prop := v = none ∧ Fr n0 L ∧ Keep h0 h [va, vn, vo] ∧ Exa Z h va "com/example/causeline/causeline/core/Filing" ∧ Fld Z h va "com/example/causeline/causeline/core/Filing" "numbers" "[J" (.ref vn) ∧ Fld Z h va "com/example/causeline/causeline/core/Filing" "orders" "[J" (.ref vo) ∧ Fld Z h va "com/example/causeline/causeline/core/Filing" "first" "I" (.int (0 : Int32)) ∧ Fld Z h va "com/example/causeline/causeline/core/Filing" "end" "I" (.int (4 : Int32)) ∧ Arv Z h vn kn .long (4 : Int32) [(.long x0), (.long x1), (.long x2), (.long vq)] (.long (0 : Int64)) ∧ Arv Z h vo ko .long (4 : Int32) [(.long vw7), (.long vw7), (.long vw7), (.long vw7)] (.long (0 : Int64))
set_option maxRecDepth 65536 in
set_option maxHeartbeats 40000000 in
theorem rmAdd3 (l : Launch) (Z : State) (a0 : Array Value) (hw : ∀ d ∈ tables_1, d.before a0 Z = true) (ws : List Jvm.Cond) (va : Addr) (vq : Int64) (vw : Addr) (vn : Addr) (kn : ClassId) (vo : Addr) (ko : ClassId) (vw7 : Int64) (x0 x1 x2 : Int64) (h0 : Heap) (n0 : Nat) (Z0 : n0 ≤ h0.size) (Ea : Exa Z h0 va "com/example/causeline/causeline/core/Filing") (Fn : Fld Z h0 va "com/example/causeline/causeline/core/Filing" "numbers" "[J" (.ref vn)) (Fo : Fld Z h0 va "com/example/causeline/causeline/core/Filing" "orders" "[J" (.ref vo)) (Ff : Fld Z h0 va "com/example/causeline/causeline/core/Filing" "first" "I" (.int (0 : Int32))) (Fe : Fld Z h0 va "com/example/causeline/causeline/core/Filing" "end" "I" (.int (3 : Int32))) (Vn : Arv Z h0 vn kn .long (4 : Int32) [(.long x0), (.long x1), (.long x2), (.long (0 : Int64))] (.long (0 : Int64))) (Vo : Arv Z h0 vo ko .long (4 : Int32) [(.long vw7), (.long vw7), (.long vw7), (.long (0 : Int64))] (.long (0 : Int64))) (Fw : Fld Z h0 vw "com/example/causeline/causeline/core/Waiting" "order" "J" (.long vw7)) (g_va : n0 ≤ va) (g_vn : n0 ≤ vn) (g_vo : n0 ≤ vo) (n_va_vn : va ≠ vn) (n_va_vo : va ≠ vo) (n_vn_vo : vn ≠ vo) (n_va_vw : va ≠ vw) (n_vw_vn : vw ≠ vn) (n_vw_vo : vw ≠ vo) (hle : ¬ vq < x2) :
    MetFree l (⟨"com/example/causeline/causeline/core/Filing", "add", "(JLcom/example/causeline/causeline/core/Waiting;)V"⟩ : MethodName) (head1 (Jvm.Cond.code (⟨"com/example/causeline/causeline/core/Filing", "add", "(JLcom/example/causeline/causeline/core/Waiting;)V"⟩ : MethodName) prog_36_method_2_code 5 none :: ws) ({ frames := 1, cells := 0, slots := 0, locals := 18 } : Room)) (fun a U => a = #[(.ref va), (.long vq), (.ref vw)] ∧ Z.Warmed39 U.vm ∧ U.heap = h0) (fun _ _ _ _ _ => True) (fun _ U o U' => ∃ v L, o = .returned v ∧ QAdd3 Z va vq vw vn kn vo ko vw7 x0 x1 x2 h0 n0 v U'.heap L ∧ FrameEnd U o U' L ({ frames := 1, cells := 0, slots := 0, locals := 18 } : Room).cells ({ frames := 1, cells := 0, slots := 0, locals := 18 } : Room).slots) := by
  refine MetFree.of_bodySF (plainFor_of_name pn_48) hisR ?_
  intro p e s m args below meth c s₁ Bd hml0 hP hK
  obtain ⟨rfl, hZ, hh⟩ := hP
  have hx := Bd.exec
  have hby := Bd.bytes
  have hml : c.maxLocals = 5 := hml0
  have hown : s.vm.findClass "com/example/causeline/causeline/core/Filing" = some m.cls := findClass_of_methodNamed Bd.named
  have hnm := (name_of_methodNamed Bd.named Bd.method).1
  have X0 : Stand p l e ({ frames := 1, cells := 0, slots := 0, locals := 18 } : Room) s m #[(.ref va), (.long vq), (.ref vw)] below meth c s₁ [] 0 0 := Stand.of_body Bd
  have e0 : s₁.heap = h0 := by rw [← hh, Bd.state]; rfl
  have N0 := Fr.nil n0
  have pre0 : ∀ t, Steps p.tables e below (s₁.setTop (mkF m 0 #[.val (.ref va), .val (.long vq), .second, .val (.ref vw), .unset] [])) t → Steps p.tables e below (s₁.setTop (entryFrame m #[(.ref va), (.long vq), (.ref vw)] 5)) t := fun t k => castTop (ef_rmAdd3 m va vq vw) k
  obtain ⟨T1, X1, e1, st1⟩ := getF X0 hx hZ hown (host := "") (Or.inl (hw _ (List.mem_of_getElem? (i := 66) rfl))) Via.refl e0 Fe (g := (mkF m 1 #[.val (.ref va), .val (.long vq), .second, .val (.ref vw), .unset] [(.ref va)])) rfl rfl (hb hby d6_1)
  obtain ⟨T2, X2, e2, st2⟩ := getF X1 hx hZ hown (host := "") (Or.inl (hw _ (List.mem_of_getElem? (i := 32) rfl))) Via.refl e1 Fo (g := (mkF m 5 #[.val (.ref va), .val (.long vq), .second, .val (.ref vw), .unset] [(.ref va), (.int (3 : Int32))])) rfl rfl (hb hby d6_5)
  obtain ⟨cl3, Ar3, q3, S3, NN3, HH3, GG3⟩ := id Vo
  obtain ⟨T4, X4, e4, st4⟩ := getF X2 hx hZ hown (host := "") (Or.inl (hw _ (List.mem_of_getElem? (i := 72) rfl))) Via.refl e2 Ff (g := (mkF m 17 #[.val (.ref va), .val (.long vq), .second, .val (.ref vw), .unset] [(.ref va)])) rfl rfl (hb hby d6_17)
  obtain ⟨T5, X5, e5, st5⟩ := getF X4 hx hZ hown (host := "") (Or.inl (hw _ (List.mem_of_getElem? (i := 66) rfl))) Via.refl e4 Fe (g := (mkF m 21 #[.val (.ref va), .val (.long vq), .second, .val (.ref vw), .unset] [(.ref va), (.int (0 : Int32))])) rfl rfl (hb hby d6_21)
  obtain ⟨T6, X6, e6, st6⟩ := getF X5 hx hZ hown (host := "") (Or.inl (hw _ (List.mem_of_getElem? (i := 30) rfl))) Via.refl e5 Fn (g := (mkF m 28 #[.val (.ref va), .val (.long vq), .second, .val (.ref vw), .unset] [(.ref va)])) rfl rfl (hb hby d6_28)
  obtain ⟨T7, X7, e7, st7⟩ := getF X6 hx hZ hown (host := "") (Or.inl (hw _ (List.mem_of_getElem? (i := 66) rfl))) Via.refl e6 Fe (g := (mkF m 32 #[.val (.ref va), .val (.long vq), .second, .val (.ref vw), .unset] [(.ref va), (.ref vn)])) rfl rfl (hb hby d6_32)
  obtain ⟨cl8, Ar8, q8, S8, NN8, HH8, GG8⟩ := id Vn
  have hin8 : ¬ ((2 : Int32) < 0 ∨ cl8.slots.size ≤ ((2 : Int32)).toNatClampNeg) := inb_of S8 ⟨by decide, by decide⟩
  have hat8 : cl8.slots[((2 : Int32)).toNatClampNeg]? = some (.long x2) := HH8.at hin8 rfl
  obtain ⟨T9, X9, e9, st9⟩ := getF X7 hx hZ hown (host := "") (Or.inl (hw _ (List.mem_of_getElem? (i := 66) rfl))) Via.refl e7 Fe (g := (mkF m 52 #[.val (.ref va), .val (.long vq), .second, .val (.ref vw), .unset] [(.ref va)])) rfl rfl (hb hby d6_52)
  obtain ⟨T10, X10, e10, st10⟩ := getF X9 hx hZ hown (host := "") (Or.inl (hw _ (List.mem_of_getElem? (i := 30) rfl))) Via.refl e9 Fn (g := (mkF m 58 #[.val (.ref va), .val (.long vq), .second, .val (.ref vw), .val (.int (3 : Int32))] [(.ref va)])) rfl rfl (hb hby d6_58)
  obtain ⟨T11, X11, e11, st11⟩ := getF X10 hx hZ hown (host := "") (Or.inl (hw _ (List.mem_of_getElem? (i := 30) rfl))) Via.refl e10 Fn (g := (mkF m 64 #[.val (.ref va), .val (.long vq), .second, .val (.ref vw), .val (.int (3 : Int32))] [(.ref va), (.int (3 : Int32)), (.ref vn)])) rfl rfl (hb hby d6_64)
  obtain ⟨T12, X12, e12, st12⟩ := getF X11 hx hZ hown (host := "") (Or.inl (hw _ (List.mem_of_getElem? (i := 66) rfl))) Via.refl e11 Fe (g := (mkF m 72 #[.val (.ref va), .val (.long vq), .second, .val (.ref vw), .val (.int (3 : Int32))] [(.ref va), (.int (4 : Int32)), (.ref vn), (.int (3 : Int32)), (.ref vn)])) rfl rfl (hb hby d6_72)
  obtain ⟨T13, h13, L13, X13, e13, N13, K13q, V13, st13⟩ := cpA X12 hx hZ hown (hw _ (List.mem_of_getElem? (i := 78) rfl)) (hw _ (List.mem_of_getElem? (i := 81) rfl)) (hw _ (List.mem_of_getElem? (i := 79) rfl)) (hw _ (List.mem_of_getElem? (i := 80) rfl)) e12 Vn Vn (Or.inl ⟨rfl, rfl⟩) (sp := (3 : Int32)) (dp := (4 : Int32)) (nn := (0 : Int32)) (by decide) (by decide) (by decide) (by decide) (by decide) (us := []) rfl (Nat.le_of_ble_eq_true rfl) N0 g_vn (g := (mkF m 78 #[.val (.ref va), .val (.long vq), .second, .val (.ref vw), .val (.int (3 : Int32))] [(.int (0 : Int32)), (.int (4 : Int32)), (.ref vn), (.int (3 : Int32)), (.ref vn)])) rfl (by rw [hml]; rfl) rfl (hb hby d6_78) (by decide) (W := 0) (by show 2 * 0 + _ ≤ _; exact Nat.le_of_eq rfl) (by decide)
  have V13' : Arv Z h13 vn kn .long (4 : Int32) [(.long x0), (.long x1), (.long x2), (.long (0 : Int64))] (.long (0 : Int64)) := V13
  have Z13 : n0 ≤ h13.size := Nat.le_trans Z0 K13q.1
  have c14 : Exa Z h13 va "com/example/causeline/causeline/core/Filing" := Ea.keep K13q
  have c15 : Fld Z h13 va "com/example/causeline/causeline/core/Filing" "numbers" "[J" (.ref vn) := Fn.keep K13q (ninS n_va_vn nin0)
  have c16 : Fld Z h13 va "com/example/causeline/causeline/core/Filing" "orders" "[J" (.ref vo) := Fo.keep K13q (ninS n_va_vn nin0)
  have c17 : Fld Z h13 va "com/example/causeline/causeline/core/Filing" "first" "I" (.int (0 : Int32)) := Ff.keep K13q (ninS n_va_vn nin0)
  have c18 : Fld Z h13 va "com/example/causeline/causeline/core/Filing" "end" "I" (.int (3 : Int32)) := Fe.keep K13q (ninS n_va_vn nin0)
  have c19 : Arv Z h13 vo ko .long (4 : Int32) [(.long vw7), (.long vw7), (.long vw7), (.long (0 : Int64))] (.long (0 : Int64)) := Vo.keep K13q (ninS (Ne.symm n_vn_vo) nin0)
  have c20 : Fld Z h13 vw "com/example/causeline/causeline/core/Waiting" "order" "J" (.long vw7) := Fw.keep K13q (ninS n_vw_vn nin0)
  have K13 : Keep h0 h13 [va, vn, vo] := (Keep.refl h0 [va, vn, vo]).trans K13q (allS (Or.inl (List.mem_of_getElem? (i := 1) rfl)) all0)
  obtain ⟨T21, X21, e21, st21⟩ := getF X13 hx hZ hown (host := "") (Or.inl (hw _ (List.mem_of_getElem? (i := 32) rfl))) Via.refl e13 c16 (g := (mkF m 82 #[.val (.ref va), .val (.long vq), .second, .val (.ref vw), .val (.int (3 : Int32))] [(.ref va)])) rfl rfl (hb hby d6_82)
  obtain ⟨T22, X22, e22, st22⟩ := getF X21 hx hZ hown (host := "") (Or.inl (hw _ (List.mem_of_getElem? (i := 32) rfl))) Via.refl e21 c16 (g := (mkF m 88 #[.val (.ref va), .val (.long vq), .second, .val (.ref vw), .val (.int (3 : Int32))] [(.ref va), (.int (3 : Int32)), (.ref vo)])) rfl rfl (hb hby d6_88)
  obtain ⟨T23, X23, e23, st23⟩ := getF X22 hx hZ hown (host := "") (Or.inl (hw _ (List.mem_of_getElem? (i := 66) rfl))) Via.refl e22 c18 (g := (mkF m 96 #[.val (.ref va), .val (.long vq), .second, .val (.ref vw), .val (.int (3 : Int32))] [(.ref va), (.int (4 : Int32)), (.ref vo), (.int (3 : Int32)), (.ref vo)])) rfl rfl (hb hby d6_96)
  obtain ⟨T24, h24, L24, X24, e24, N24, K24q, V24, st24⟩ := cpA X23 hx hZ hown (hw _ (List.mem_of_getElem? (i := 78) rfl)) (hw _ (List.mem_of_getElem? (i := 81) rfl)) (hw _ (List.mem_of_getElem? (i := 79) rfl)) (hw _ (List.mem_of_getElem? (i := 80) rfl)) e23 c19 c19 (Or.inl ⟨rfl, rfl⟩) (sp := (3 : Int32)) (dp := (4 : Int32)) (nn := (0 : Int32)) (by decide) (by decide) (by decide) (by decide) (by decide) (us := []) rfl (Nat.le_of_ble_eq_true rfl) N13 g_vo (g := (mkF m 102 #[.val (.ref va), .val (.long vq), .second, .val (.ref vw), .val (.int (3 : Int32))] [(.int (0 : Int32)), (.int (4 : Int32)), (.ref vo), (.int (3 : Int32)), (.ref vo)])) rfl (by rw [hml]; rfl) rfl (hb hby d6_102) (by decide) (W := 0) (by show 2 * 0 + _ ≤ _; exact Nat.le_of_eq rfl) (by decide)
  have V24' : Arv Z h24 vo ko .long (4 : Int32) [(.long vw7), (.long vw7), (.long vw7), (.long (0 : Int64))] (.long (0 : Int64)) := V24
  have Z24 : n0 ≤ h24.size := Nat.le_trans Z13 K24q.1
  have c25 : Exa Z h24 va "com/example/causeline/causeline/core/Filing" := c14.keep K24q
  have c26 : Fld Z h24 va "com/example/causeline/causeline/core/Filing" "numbers" "[J" (.ref vn) := c15.keep K24q (ninS n_va_vo nin0)
  have c27 : Fld Z h24 va "com/example/causeline/causeline/core/Filing" "orders" "[J" (.ref vo) := c16.keep K24q (ninS n_va_vo nin0)
  have c28 : Fld Z h24 va "com/example/causeline/causeline/core/Filing" "first" "I" (.int (0 : Int32)) := c17.keep K24q (ninS n_va_vo nin0)
  have c29 : Fld Z h24 va "com/example/causeline/causeline/core/Filing" "end" "I" (.int (3 : Int32)) := c18.keep K24q (ninS n_va_vo nin0)
  have c30 : Fld Z h24 vw "com/example/causeline/causeline/core/Waiting" "order" "J" (.long vw7) := c20.keep K24q (ninS n_vw_vo nin0)
  have c31 : Arv Z h24 vn kn .long (4 : Int32) [(.long x0), (.long x1), (.long x2), (.long (0 : Int64))] (.long (0 : Int64)) := V13'.keep K24q (ninS n_vn_vo nin0)
  have K24 : Keep h0 h24 [va, vn, vo] := K13.trans K24q (allS (Or.inl (List.mem_of_getElem? (i := 2) rfl)) all0)
  obtain ⟨T32, X32, e32, st32⟩ := getF X24 hx hZ hown (host := "") (Or.inl (hw _ (List.mem_of_getElem? (i := 30) rfl))) Via.refl e24 c26 (g := (mkF m 106 #[.val (.ref va), .val (.long vq), .second, .val (.ref vw), .val (.int (3 : Int32))] [(.ref va)])) rfl rfl (hb hby d6_106)
  obtain ⟨cl33, Ar33, q33, S33, NN33, HH33, GG33⟩ := id c31
  have hin33 : ¬ ((3 : Int32) < 0 ∨ cl33.slots.size ≤ ((3 : Int32)).toNatClampNeg) := inb_of S33 ⟨by decide, by decide⟩
  obtain ⟨T34, h34, X34, e34, W34, st34⟩ := stJ X32 hx hZ e32 Ar33 (j := (3 : Int32)) hin33  (g := (mkF m 112 #[.val (.ref va), .val (.long vq), .second, .val (.ref vw), .val (.int (3 : Int32))] [(.long vq), (.int (3 : Int32)), (.ref vn)])) rfl rfl (hb hby d6_112)
  have V34 : Arv Z h34 vn kn .long (4 : Int32) [(.long x0), (.long x1), (.long x2), (.long vq)] (.long (0 : Int64)) := (Arv.set Ar33 q33 S33 NN33 HH33 GG33 rfl W34 3 rfl (Nat.le_of_ble_eq_true rfl))
  have c35 : Exa Z h34 va "com/example/causeline/causeline/core/Filing" := c25.wr W34
  have c36 : Fld Z h34 va "com/example/causeline/causeline/core/Filing" "numbers" "[J" (.ref vn) := c26.other W34 (Or.inl n_va_vn)
  have c37 : Fld Z h34 va "com/example/causeline/causeline/core/Filing" "orders" "[J" (.ref vo) := c27.other W34 (Or.inl n_va_vn)
  have c38 : Fld Z h34 va "com/example/causeline/causeline/core/Filing" "first" "I" (.int (0 : Int32)) := c28.other W34 (Or.inl n_va_vn)
  have c39 : Fld Z h34 va "com/example/causeline/causeline/core/Filing" "end" "I" (.int (3 : Int32)) := c29.other W34 (Or.inl n_va_vn)
  have c40 : Fld Z h34 vw "com/example/causeline/causeline/core/Waiting" "order" "J" (.long vw7) := c30.other W34 (Or.inl n_vw_vn)
  have c41 : Arv Z h34 vo ko .long (4 : Int32) [(.long vw7), (.long vw7), (.long vw7), (.long (0 : Int64))] (.long (0 : Int64)) := V24'.other W34 (Ne.symm n_vn_vo)
  have Z34 : n0 ≤ h34.size := Nat.le_trans Z24 (Keep.of_wr W34).1
  have N34 := Fr.snoc X34 N24 g_vn
  have K34 : Keep h0 h34 [va, vn, vo] := K24.wr W34 (Or.inl (List.mem_of_getElem? (i := 1) rfl))
  obtain ⟨T42, X42, e42, st42⟩ := getF X34 hx hZ hown (host := "") (Or.inl (hw _ (List.mem_of_getElem? (i := 32) rfl))) Via.refl e34 c37 (g := (mkF m 114 #[.val (.ref va), .val (.long vq), .second, .val (.ref vw), .val (.int (3 : Int32))] [(.ref va)])) rfl rfl (hb hby d6_114)
  obtain ⟨T43, X43, e43, st43⟩ := getF X42 hx hZ hown (host := "") (Or.inl (hw _ (List.mem_of_getElem? (i := 82) rfl))) Via.refl e42 c40 (g := (mkF m 120 #[.val (.ref va), .val (.long vq), .second, .val (.ref vw), .val (.int (3 : Int32))] [(.ref vw), (.int (3 : Int32)), (.ref vo)])) rfl rfl (hb hby d6_120)
  obtain ⟨cl44, Ar44, q44, S44, NN44, HH44, GG44⟩ := id c41
  have hin44 : ¬ ((3 : Int32) < 0 ∨ cl44.slots.size ≤ ((3 : Int32)).toNatClampNeg) := inb_of S44 ⟨by decide, by decide⟩
  obtain ⟨T45, h45, X45, e45, W45, st45⟩ := stJ X43 hx hZ e43 Ar44 (j := (3 : Int32)) hin44  (g := (mkF m 123 #[.val (.ref va), .val (.long vq), .second, .val (.ref vw), .val (.int (3 : Int32))] [(.long vw7), (.int (3 : Int32)), (.ref vo)])) rfl rfl (hb hby d6_123)
  have V45 : Arv Z h45 vo ko .long (4 : Int32) [(.long vw7), (.long vw7), (.long vw7), (.long vw7)] (.long (0 : Int64)) := (Arv.set Ar44 q44 S44 NN44 HH44 GG44 rfl W45 3 rfl (Nat.le_of_ble_eq_true rfl))
  have c46 : Exa Z h45 va "com/example/causeline/causeline/core/Filing" := c35.wr W45
  have c47 : Fld Z h45 va "com/example/causeline/causeline/core/Filing" "numbers" "[J" (.ref vn) := c36.other W45 (Or.inl n_va_vo)
  have c48 : Fld Z h45 va "com/example/causeline/causeline/core/Filing" "orders" "[J" (.ref vo) := c37.other W45 (Or.inl n_va_vo)
  have c49 : Fld Z h45 va "com/example/causeline/causeline/core/Filing" "first" "I" (.int (0 : Int32)) := c38.other W45 (Or.inl n_va_vo)
  have c50 : Fld Z h45 va "com/example/causeline/causeline/core/Filing" "end" "I" (.int (3 : Int32)) := c39.other W45 (Or.inl n_va_vo)
  have c51 : Fld Z h45 vw "com/example/causeline/causeline/core/Waiting" "order" "J" (.long vw7) := c40.other W45 (Or.inl n_vw_vo)
  have c52 : Arv Z h45 vn kn .long (4 : Int32) [(.long x0), (.long x1), (.long x2), (.long vq)] (.long (0 : Int64)) := V34.other W45 n_vn_vo
  have Z45 : n0 ≤ h45.size := Nat.le_trans Z34 (Keep.of_wr W45).1
  have N45 := Fr.snoc X45 N34 g_vo
  have K45 : Keep h0 h45 [va, vn, vo] := K34.wr W45 (Or.inl (List.mem_of_getElem? (i := 2) rfl))
  obtain ⟨T53, X53, e53, st53⟩ := getF X45 hx hZ hown (host := "") (Or.inl (hw _ (List.mem_of_getElem? (i := 66) rfl))) Via.refl e45 c50 (g := (mkF m 126 #[.val (.ref va), .val (.long vq), .second, .val (.ref vw), .val (.int (3 : Int32))] [(.ref va), (.ref va)])) rfl rfl (hb hby d6_126)
  obtain ⟨T54, h54, X54, e54, W54, st54⟩ := putF X53 hx hZ hown (host := "") (Or.inl (hw _ (List.mem_of_getElem? (i := 66) rfl))) Via.refl e53 c50 c46 (Or.inl (hw _ (List.mem_of_getElem? (i := 67) rfl))) (hw _ (List.mem_of_getElem? (i := 6) rfl)) (ty := .int) (by decide) rfl rfl (g := (mkF m 131 #[.val (.ref va), .val (.long vq), .second, .val (.ref vw), .val (.int (3 : Int32))] [(.int (4 : Int32)), (.ref va)])) rfl rfl (hb hby d6_131)
  have Fw54 : Fld Z h54 va "com/example/causeline/causeline/core/Filing" "end" "I" (.int (4 : Int32)) := c50.same W54
  have c55 : Exa Z h54 va "com/example/causeline/causeline/core/Filing" := c46.wr W54
  have c56 : Fld Z h54 va "com/example/causeline/causeline/core/Filing" "numbers" "[J" (.ref vn) := c47.other W54 (Or.inr (slot_ne (Or.inl (hw _ (List.mem_of_getElem? (i := 31) rfl))) (Or.inl (hw _ (List.mem_of_getElem? (i := 67) rfl))) (by decide) (t := (.array .long)) (t' := .int) (by decide) (by decide)))
  have c57 : Fld Z h54 va "com/example/causeline/causeline/core/Filing" "orders" "[J" (.ref vo) := c48.other W54 (Or.inr (slot_ne (Or.inl (hw _ (List.mem_of_getElem? (i := 33) rfl))) (Or.inl (hw _ (List.mem_of_getElem? (i := 67) rfl))) (by decide) (t := (.array .long)) (t' := .int) (by decide) (by decide)))
  have c58 : Fld Z h54 va "com/example/causeline/causeline/core/Filing" "first" "I" (.int (0 : Int32)) := c49.other W54 (Or.inr (slot_ne (Or.inl (hw _ (List.mem_of_getElem? (i := 73) rfl))) (Or.inl (hw _ (List.mem_of_getElem? (i := 67) rfl))) (by decide) (t := .int) (t' := .int) (by decide) (by decide)))
  have c59 : Fld Z h54 vw "com/example/causeline/causeline/core/Waiting" "order" "J" (.long vw7) := c51.other W54 (Or.inl (Ne.symm n_va_vw))
  have c60 : Arv Z h54 vn kn .long (4 : Int32) [(.long x0), (.long x1), (.long x2), (.long vq)] (.long (0 : Int64)) := c52.other W54 (Ne.symm n_va_vn)
  have c61 : Arv Z h54 vo ko .long (4 : Int32) [(.long vw7), (.long vw7), (.long vw7), (.long vw7)] (.long (0 : Int64)) := V45.other W54 (Ne.symm n_va_vo)
  have Z54 : n0 ≤ h54.size := Nat.le_trans Z45 (Keep.of_wr W54).1
  have N54 := Fr.snoc X54 N45 g_va
  have K54 : Keep h0 h54 [va, vn, vo] := K45.wr W54 (Or.inl (List.mem_of_getElem? (i := 0) rfl))
  obtain ⟨fs, hr, hrun, hended, hW, hsame⟩ := X54.leave (v := none) (fun _ => rfl) (hlocks := BodyLoose.notSynchronized Bd)
  refine ⟨_, _, pre0 _ ?_, hrun, hended, _, _, rfl, ?_, ⟨_, rfl⟩, hW, hsame.mono (by decide) (by decide)⟩
  ·
    show Steps p.tables e below (s₁.setTop (mkF m 0 #[.val (.ref va), .val (.long vq), .second, .val (.ref vw), .unset] [])) _
    refine XS.aloadN X0.here hx rfl (hb hby d6_0) rfl rfl ?_
    show Steps p.tables e below (s₁.setTop (mkF m 1 #[.val (.ref va), .val (.long vq), .second, .val (.ref vw), .unset] [(.ref va)])) _
    refine st1 _ ?_
    show Steps p.tables e below (T1.setTop (mkF m 4 #[.val (.ref va), .val (.long vq), .second, .val (.ref vw), .unset] [(.int (3 : Int32))])) _
    refine XS.aloadN X1.here hx rfl (hb hby d6_4) rfl rfl ?_
    show Steps p.tables e below (T1.setTop (mkF m 5 #[.val (.ref va), .val (.long vq), .second, .val (.ref vw), .unset] [(.ref va), (.int (3 : Int32))])) _
    refine st2 _ ?_
    show Steps p.tables e below (T2.setTop (mkF m 8 #[.val (.ref va), .val (.long vq), .second, .val (.ref vw), .unset] [(.ref vo), (.int (3 : Int32))])) _
    refine X2.arraylength hx (by rw [e2]; exact Ar3.1) (State.isArrayOf_alike hZ.alike Ar3.2.1) (g := (mkF m 8 #[.val (.ref va), .val (.long vq), .second, .val (.ref vw), .unset] [(.ref vo), (.int (3 : Int32))])) rfl rfl (hb hby d6_8) _ ?_
    rw [len_of S3 NN3]
    show Steps p.tables e below (T2.setTop (mkF m 9 #[.val (.ref va), .val (.long vq), .second, .val (.ref vw), .unset] [(.int (4 : Int32)), (.int (3 : Int32))])) _
    refine XS.icmpYes X2.here hx rfl (pc0 := 9) (pc' := 16) rfl (hb hby d6_9) rfl (feq ((by decide) : ¬ ((3 : Int32) = (4 : Int32)))).2 (by decide) (by decide) ?_
    show Steps p.tables e below (T2.setTop (mkF m 16 #[.val (.ref va), .val (.long vq), .second, .val (.ref vw), .unset] [])) _
    refine XS.aloadN X2.here hx rfl (hb hby d6_16) rfl rfl ?_
    show Steps p.tables e below (T2.setTop (mkF m 17 #[.val (.ref va), .val (.long vq), .second, .val (.ref vw), .unset] [(.ref va)])) _
    refine st4 _ ?_
    show Steps p.tables e below (T4.setTop (mkF m 20 #[.val (.ref va), .val (.long vq), .second, .val (.ref vw), .unset] [(.int (0 : Int32))])) _
    refine XS.aloadN X4.here hx rfl (hb hby d6_20) rfl rfl ?_
    show Steps p.tables e below (T4.setTop (mkF m 21 #[.val (.ref va), .val (.long vq), .second, .val (.ref vw), .unset] [(.ref va), (.int (0 : Int32))])) _
    refine st5 _ ?_
    show Steps p.tables e below (T5.setTop (mkF m 24 #[.val (.ref va), .val (.long vq), .second, .val (.ref vw), .unset] [(.int (3 : Int32)), (.int (0 : Int32))])) _
    refine XS.icmpNo X5.here hx rfl (hb hby d6_24) rfl (tlt ((by decide) : (0 : Int32) < (3 : Int32))).2.1 ?_
    show Steps p.tables e below (T5.setTop (mkF m 27 #[.val (.ref va), .val (.long vq), .second, .val (.ref vw), .unset] [])) _
    refine XS.aloadN X5.here hx rfl (hb hby d6_27) rfl rfl ?_
    show Steps p.tables e below (T5.setTop (mkF m 28 #[.val (.ref va), .val (.long vq), .second, .val (.ref vw), .unset] [(.ref va)])) _
    refine st6 _ ?_
    show Steps p.tables e below (T6.setTop (mkF m 31 #[.val (.ref va), .val (.long vq), .second, .val (.ref vw), .unset] [(.ref vn)])) _
    refine XS.aloadN X6.here hx rfl (hb hby d6_31) rfl rfl ?_
    show Steps p.tables e below (T6.setTop (mkF m 32 #[.val (.ref va), .val (.long vq), .second, .val (.ref vw), .unset] [(.ref va), (.ref vn)])) _
    refine st7 _ ?_
    show Steps p.tables e below (T7.setTop (mkF m 35 #[.val (.ref va), .val (.long vq), .second, .val (.ref vw), .unset] [(.int (3 : Int32)), (.ref vn)])) _
    refine XS.iconst X7.here hx rfl (hb hby d6_35) ?_
    show Steps p.tables e below (T7.setTop (mkF m 36 #[.val (.ref va), .val (.long vq), .second, .val (.ref vw), .unset] [(.int (1 : Int32)), (.int (3 : Int32)), (.ref vn)])) _
    refine XS.isub X7.here hx rfl (hb hby d6_36) rfl ?_
    show Steps p.tables e below (T7.setTop (mkF m 37 #[.val (.ref va), .val (.long vq), .second, .val (.ref vw), .unset] [(.int (2 : Int32)), (.ref vn)])) _
    refine X7.laload hx (j := (2 : Int32)) (v := (.long x2)) (by rw [e7]; exact Ar8.1) (State.isArrayOf_alike hZ.alike Ar8.2.1) Ar8.2.2 hin8 hat8 (g := (mkF m 37 #[.val (.ref va), .val (.long vq), .second, .val (.ref vw), .unset] [(.int (2 : Int32)), (.ref vn)])) rfl rfl (hb hby d6_37) _ ?_
    show Steps p.tables e below (T7.setTop (mkF m 38 #[.val (.ref va), .val (.long vq), .second, .val (.ref vw), .unset] [(.long x2)])) _
    refine XS.lloadN X7.here hx rfl (hb hby d6_38) rfl ?_
    show Steps p.tables e below (T7.setTop (mkF m 39 #[.val (.ref va), .val (.long vq), .second, .val (.ref vw), .unset] [(.long vq), (.long x2)])) _
    refine XS.lcmp X7.here hx rfl (hb hby d6_39) rfl ?_
    show Steps p.tables e below (T7.setTop (mkF m 40 #[.val (.ref va), .val (.long vq), .second, .val (.ref vw), .unset] [(.int (lcmpW x2 vq))])) _
    refine XS.ifYes X7.here hx rfl (pc0 := 40) (pc' := 51) rfl (hb hby d6_40) rfl ((if0 _ _).trans (flt ((fun q => hle ((lw_gt _ _).mp q)) : ¬ ((0 : Int32) < (lcmpW x2 vq)))).2.2.2) (by decide) (by decide) ?_
    show Steps p.tables e below (T7.setTop (mkF m 51 #[.val (.ref va), .val (.long vq), .second, .val (.ref vw), .unset] [])) _
    refine XS.aloadN X7.here hx rfl (hb hby d6_51) rfl rfl ?_
    show Steps p.tables e below (T7.setTop (mkF m 52 #[.val (.ref va), .val (.long vq), .second, .val (.ref vw), .unset] [(.ref va)])) _
    refine st9 _ ?_
    show Steps p.tables e below (T9.setTop (mkF m 55 #[.val (.ref va), .val (.long vq), .second, .val (.ref vw), .unset] [(.int (3 : Int32))])) _
    refine XS.istore X9.here hx rfl (hb hby d6_55) rfl (l' := #[.val (.ref va), .val (.long vq), .second, .val (.ref vw), .val (.int (3 : Int32))]) rfl ?_
    show Steps p.tables e below (T9.setTop (mkF m 57 #[.val (.ref va), .val (.long vq), .second, .val (.ref vw), .val (.int (3 : Int32))] [])) _
    refine XS.aloadN X9.here hx rfl (hb hby d6_57) rfl rfl ?_
    show Steps p.tables e below (T9.setTop (mkF m 58 #[.val (.ref va), .val (.long vq), .second, .val (.ref vw), .val (.int (3 : Int32))] [(.ref va)])) _
    refine st10 _ ?_
    show Steps p.tables e below (T10.setTop (mkF m 61 #[.val (.ref va), .val (.long vq), .second, .val (.ref vw), .val (.int (3 : Int32))] [(.ref vn)])) _
    refine XS.iload X10.here hx rfl (hb hby d6_61) rfl ?_
    show Steps p.tables e below (T10.setTop (mkF m 63 #[.val (.ref va), .val (.long vq), .second, .val (.ref vw), .val (.int (3 : Int32))] [(.int (3 : Int32)), (.ref vn)])) _
    refine XS.aloadN X10.here hx rfl (hb hby d6_63) rfl rfl ?_
    show Steps p.tables e below (T10.setTop (mkF m 64 #[.val (.ref va), .val (.long vq), .second, .val (.ref vw), .val (.int (3 : Int32))] [(.ref va), (.int (3 : Int32)), (.ref vn)])) _
    refine st11 _ ?_
    show Steps p.tables e below (T11.setTop (mkF m 67 #[.val (.ref va), .val (.long vq), .second, .val (.ref vw), .val (.int (3 : Int32))] [(.ref vn), (.int (3 : Int32)), (.ref vn)])) _
    refine XS.iload X11.here hx rfl (hb hby d6_67) rfl ?_
    show Steps p.tables e below (T11.setTop (mkF m 69 #[.val (.ref va), .val (.long vq), .second, .val (.ref vw), .val (.int (3 : Int32))] [(.int (3 : Int32)), (.ref vn), (.int (3 : Int32)), (.ref vn)])) _
    refine XS.iconst X11.here hx rfl (hb hby d6_69) ?_
    show Steps p.tables e below (T11.setTop (mkF m 70 #[.val (.ref va), .val (.long vq), .second, .val (.ref vw), .val (.int (3 : Int32))] [(.int (1 : Int32)), (.int (3 : Int32)), (.ref vn), (.int (3 : Int32)), (.ref vn)])) _
    refine XS.iadd X11.here hx rfl (hb hby d6_70) rfl ?_
    show Steps p.tables e below (T11.setTop (mkF m 71 #[.val (.ref va), .val (.long vq), .second, .val (.ref vw), .val (.int (3 : Int32))] [(.int (4 : Int32)), (.ref vn), (.int (3 : Int32)), (.ref vn)])) _
    refine XS.aloadN X11.here hx rfl (hb hby d6_71) rfl rfl ?_
    show Steps p.tables e below (T11.setTop (mkF m 72 #[.val (.ref va), .val (.long vq), .second, .val (.ref vw), .val (.int (3 : Int32))] [(.ref va), (.int (4 : Int32)), (.ref vn), (.int (3 : Int32)), (.ref vn)])) _
    refine st12 _ ?_
    show Steps p.tables e below (T12.setTop (mkF m 75 #[.val (.ref va), .val (.long vq), .second, .val (.ref vw), .val (.int (3 : Int32))] [(.int (3 : Int32)), (.int (4 : Int32)), (.ref vn), (.int (3 : Int32)), (.ref vn)])) _
    refine XS.iload X12.here hx rfl (hb hby d6_75) rfl ?_
    show Steps p.tables e below (T12.setTop (mkF m 77 #[.val (.ref va), .val (.long vq), .second, .val (.ref vw), .val (.int (3 : Int32))] [(.int (3 : Int32)), (.int (3 : Int32)), (.int (4 : Int32)), (.ref vn), (.int (3 : Int32)), (.ref vn)])) _
    refine XS.isub X12.here hx rfl (hb hby d6_77) rfl ?_
    show Steps p.tables e below (T12.setTop (mkF m 78 #[.val (.ref va), .val (.long vq), .second, .val (.ref vw), .val (.int (3 : Int32))] [(.int (0 : Int32)), (.int (4 : Int32)), (.ref vn), (.int (3 : Int32)), (.ref vn)])) _
    refine st13 _ ?_
    show Steps p.tables e below (T13.setTop (mkF m 81 #[.val (.ref va), .val (.long vq), .second, .val (.ref vw), .val (.int (3 : Int32))] [])) _
    refine XS.aloadN X13.here hx rfl (hb hby d6_81) rfl rfl ?_
    show Steps p.tables e below (T13.setTop (mkF m 82 #[.val (.ref va), .val (.long vq), .second, .val (.ref vw), .val (.int (3 : Int32))] [(.ref va)])) _
    refine st21 _ ?_
    show Steps p.tables e below (T21.setTop (mkF m 85 #[.val (.ref va), .val (.long vq), .second, .val (.ref vw), .val (.int (3 : Int32))] [(.ref vo)])) _
    refine XS.iload X21.here hx rfl (hb hby d6_85) rfl ?_
    show Steps p.tables e below (T21.setTop (mkF m 87 #[.val (.ref va), .val (.long vq), .second, .val (.ref vw), .val (.int (3 : Int32))] [(.int (3 : Int32)), (.ref vo)])) _
    refine XS.aloadN X21.here hx rfl (hb hby d6_87) rfl rfl ?_
    show Steps p.tables e below (T21.setTop (mkF m 88 #[.val (.ref va), .val (.long vq), .second, .val (.ref vw), .val (.int (3 : Int32))] [(.ref va), (.int (3 : Int32)), (.ref vo)])) _
    refine st22 _ ?_
    show Steps p.tables e below (T22.setTop (mkF m 91 #[.val (.ref va), .val (.long vq), .second, .val (.ref vw), .val (.int (3 : Int32))] [(.ref vo), (.int (3 : Int32)), (.ref vo)])) _
    refine XS.iload X22.here hx rfl (hb hby d6_91) rfl ?_
    show Steps p.tables e below (T22.setTop (mkF m 93 #[.val (.ref va), .val (.long vq), .second, .val (.ref vw), .val (.int (3 : Int32))] [(.int (3 : Int32)), (.ref vo), (.int (3 : Int32)), (.ref vo)])) _
    refine XS.iconst X22.here hx rfl (hb hby d6_93) ?_
    show Steps p.tables e below (T22.setTop (mkF m 94 #[.val (.ref va), .val (.long vq), .second, .val (.ref vw), .val (.int (3 : Int32))] [(.int (1 : Int32)), (.int (3 : Int32)), (.ref vo), (.int (3 : Int32)), (.ref vo)])) _
    refine XS.iadd X22.here hx rfl (hb hby d6_94) rfl ?_
    show Steps p.tables e below (T22.setTop (mkF m 95 #[.val (.ref va), .val (.long vq), .second, .val (.ref vw), .val (.int (3 : Int32))] [(.int (4 : Int32)), (.ref vo), (.int (3 : Int32)), (.ref vo)])) _
    refine XS.aloadN X22.here hx rfl (hb hby d6_95) rfl rfl ?_
    show Steps p.tables e below (T22.setTop (mkF m 96 #[.val (.ref va), .val (.long vq), .second, .val (.ref vw), .val (.int (3 : Int32))] [(.ref va), (.int (4 : Int32)), (.ref vo), (.int (3 : Int32)), (.ref vo)])) _
    refine st23 _ ?_
    show Steps p.tables e below (T23.setTop (mkF m 99 #[.val (.ref va), .val (.long vq), .second, .val (.ref vw), .val (.int (3 : Int32))] [(.int (3 : Int32)), (.int (4 : Int32)), (.ref vo), (.int (3 : Int32)), (.ref vo)])) _
    refine XS.iload X23.here hx rfl (hb hby d6_99) rfl ?_
    show Steps p.tables e below (T23.setTop (mkF m 101 #[.val (.ref va), .val (.long vq), .second, .val (.ref vw), .val (.int (3 : Int32))] [(.int (3 : Int32)), (.int (3 : Int32)), (.int (4 : Int32)), (.ref vo), (.int (3 : Int32)), (.ref vo)])) _
    refine XS.isub X23.here hx rfl (hb hby d6_101) rfl ?_
    show Steps p.tables e below (T23.setTop (mkF m 102 #[.val (.ref va), .val (.long vq), .second, .val (.ref vw), .val (.int (3 : Int32))] [(.int (0 : Int32)), (.int (4 : Int32)), (.ref vo), (.int (3 : Int32)), (.ref vo)])) _
    refine st24 _ ?_
    show Steps p.tables e below (T24.setTop (mkF m 105 #[.val (.ref va), .val (.long vq), .second, .val (.ref vw), .val (.int (3 : Int32))] [])) _
    refine XS.aloadN X24.here hx rfl (hb hby d6_105) rfl rfl ?_
    show Steps p.tables e below (T24.setTop (mkF m 106 #[.val (.ref va), .val (.long vq), .second, .val (.ref vw), .val (.int (3 : Int32))] [(.ref va)])) _
    refine st32 _ ?_
    show Steps p.tables e below (T32.setTop (mkF m 109 #[.val (.ref va), .val (.long vq), .second, .val (.ref vw), .val (.int (3 : Int32))] [(.ref vn)])) _
    refine XS.iload X32.here hx rfl (hb hby d6_109) rfl ?_
    show Steps p.tables e below (T32.setTop (mkF m 111 #[.val (.ref va), .val (.long vq), .second, .val (.ref vw), .val (.int (3 : Int32))] [(.int (3 : Int32)), (.ref vn)])) _
    refine XS.lloadN X32.here hx rfl (hb hby d6_111) rfl ?_
    show Steps p.tables e below (T32.setTop (mkF m 112 #[.val (.ref va), .val (.long vq), .second, .val (.ref vw), .val (.int (3 : Int32))] [(.long vq), (.int (3 : Int32)), (.ref vn)])) _
    refine st34 _ ?_
    show Steps p.tables e below (T34.setTop (mkF m 113 #[.val (.ref va), .val (.long vq), .second, .val (.ref vw), .val (.int (3 : Int32))] [])) _
    refine XS.aloadN X34.here hx rfl (hb hby d6_113) rfl rfl ?_
    show Steps p.tables e below (T34.setTop (mkF m 114 #[.val (.ref va), .val (.long vq), .second, .val (.ref vw), .val (.int (3 : Int32))] [(.ref va)])) _
    refine st42 _ ?_
    show Steps p.tables e below (T42.setTop (mkF m 117 #[.val (.ref va), .val (.long vq), .second, .val (.ref vw), .val (.int (3 : Int32))] [(.ref vo)])) _
    refine XS.iload X42.here hx rfl (hb hby d6_117) rfl ?_
    show Steps p.tables e below (T42.setTop (mkF m 119 #[.val (.ref va), .val (.long vq), .second, .val (.ref vw), .val (.int (3 : Int32))] [(.int (3 : Int32)), (.ref vo)])) _
    refine XS.aloadN X42.here hx rfl (hb hby d6_119) rfl rfl ?_
    show Steps p.tables e below (T42.setTop (mkF m 120 #[.val (.ref va), .val (.long vq), .second, .val (.ref vw), .val (.int (3 : Int32))] [(.ref vw), (.int (3 : Int32)), (.ref vo)])) _
    refine st43 _ ?_
    show Steps p.tables e below (T43.setTop (mkF m 123 #[.val (.ref va), .val (.long vq), .second, .val (.ref vw), .val (.int (3 : Int32))] [(.long vw7), (.int (3 : Int32)), (.ref vo)])) _
    refine st45 _ ?_
    show Steps p.tables e below (T45.setTop (mkF m 124 #[.val (.ref va), .val (.long vq), .second, .val (.ref vw), .val (.int (3 : Int32))] [])) _
    refine XS.aloadN X45.here hx rfl (hb hby d6_124) rfl rfl ?_
    show Steps p.tables e below (T45.setTop (mkF m 125 #[.val (.ref va), .val (.long vq), .second, .val (.ref vw), .val (.int (3 : Int32))] [(.ref va)])) _
    refine XS.dup X45.here hx rfl (hb hby d6_125) rfl rfl ?_
    show Steps p.tables e below (T45.setTop (mkF m 126 #[.val (.ref va), .val (.long vq), .second, .val (.ref vw), .val (.int (3 : Int32))] [(.ref va), (.ref va)])) _
    refine st53 _ ?_
    show Steps p.tables e below (T53.setTop (mkF m 129 #[.val (.ref va), .val (.long vq), .second, .val (.ref vw), .val (.int (3 : Int32))] [(.int (3 : Int32)), (.ref va)])) _
    refine XS.iconst X53.here hx rfl (hb hby d6_129) ?_
    show Steps p.tables e below (T53.setTop (mkF m 130 #[.val (.ref va), .val (.long vq), .second, .val (.ref vw), .val (.int (3 : Int32))] [(.int (1 : Int32)), (.int (3 : Int32)), (.ref va)])) _
    refine XS.iadd X53.here hx rfl (hb hby d6_130) rfl ?_
    show Steps p.tables e below (T53.setTop (mkF m 131 #[.val (.ref va), .val (.long vq), .second, .val (.ref vw), .val (.int (3 : Int32))] [(.int (4 : Int32)), (.ref va)])) _
    refine st54 _ ?_
    show Steps p.tables e below (T54.setTop (mkF m 134 #[.val (.ref va), .val (.long vq), .second, .val (.ref vw), .val (.int (3 : Int32))] [])) _
    exact X54.returnOut hx Bd.returns (hb hby d6_134) hr
  ·
    show QAdd3 Z va vq vw vn kn vo ko vw7 x0 x1 x2 h0 n0 _ T54.heap _
    rw [e54]
    exact ⟨rfl, N54, K54, c55, c56, c57, c58, Fw54, c60, c61⟩
def own_ef (f e : Int32) : Int32 := if f = e then 0 else f
def own_ee (f e : Int32) : Int32 := if f = e then 0 else e
theorem d10_0 : decode prog_36_method_12_code 0 = .ok (.aload_n 0, 1) := by decide +kernel
theorem d10_1 : decode prog_36_method_12_code 1 = .ok (.getfield 30, 3) := by decide +kernel
theorem d10_4 : decode prog_36_method_12_code 4 = .ok (.aload_n 0, 1) := by decide +kernel
theorem d10_5 : decode prog_36_method_12_code 5 = .ok (.getfield 23, 3) := by decide +kernel
theorem d10_8 : decode prog_36_method_12_code 8 = .ok (.if_icmp .ne 13, 3) := by decide +kernel
theorem d10_11 : decode prog_36_method_12_code 11 = .ok (.aload_n 0, 1) := by decide +kernel
theorem d10_12 : decode prog_36_method_12_code 12 = .ok (.iconst 0, 1) := by decide +kernel
theorem d10_13 : decode prog_36_method_12_code 13 = .ok (.putfield 30, 3) := by decide +kernel
theorem d10_16 : decode prog_36_method_12_code 16 = .ok (.aload_n 0, 1) := by decide +kernel
theorem d10_17 : decode prog_36_method_12_code 17 = .ok (.iconst 0, 1) := by decide +kernel
theorem d10_18 : decode prog_36_method_12_code 18 = .ok (.putfield 23, 3) := by decide +kernel
theorem d10_21 : decode prog_36_method_12_code 21 = .ok (.return_, 1) := by decide +kernel
theorem ef_rm10 (m : MethodId) (x0 : Addr) : entryFrame m #[(.ref x0)] 1 = mkF m 0 #[.val (.ref x0)] [] := by first | (simp [entryFrame, mkF, argsToLocals, Value.category]; done) | rfl
def Q10 (Z : State) (va : Addr) (vn : Addr) (vf ve : Int32) (h0 : Heap) (n0 : Nat) (v : Option Value) (h : Heap) (L : List Loc) : Prop := v = none ∧ Fr n0 L ∧ Keep h0 h [va] ∧ Exa Z h va "com/example/causeline/causeline/core/Filing" ∧ Fld Z h va "com/example/causeline/causeline/core/Filing" "numbers" "[J" (.ref vn) ∧ Fld Z h va "com/example/causeline/causeline/core/Filing" "first" "I" (.int (own_ef vf ve)) ∧ Fld Z h va "com/example/causeline/causeline/core/Filing" "end" "I" (.int (own_ee vf ve))
set_option maxRecDepth 65536 in
set_option maxHeartbeats 40000000 in
theorem rm10 (l : Launch) (Z : State) (a0 : Array Value) (hw : ∀ d ∈ tables_1, d.before a0 Z = true) (ws : List Jvm.Cond) (va : Addr) (vn : Addr) (vf ve : Int32) (h0 : Heap) (n0 : Nat) (Z0 : n0 ≤ h0.size) (Ea : Exa Z h0 va "com/example/causeline/causeline/core/Filing") (Fn : Fld Z h0 va "com/example/causeline/causeline/core/Filing" "numbers" "[J" (.ref vn)) (Ff : Fld Z h0 va "com/example/causeline/causeline/core/Filing" "first" "I" (.int vf)) (Fe : Fld Z h0 va "com/example/causeline/causeline/core/Filing" "end" "I" (.int ve)) (g_va : n0 ≤ va) :
    MetFree l (⟨"com/example/causeline/causeline/core/Filing", "emptied", "()V"⟩ : MethodName) (head1 (Jvm.Cond.code (⟨"com/example/causeline/causeline/core/Filing", "emptied", "()V"⟩ : MethodName) prog_36_method_12_code 1 none :: ws) ({ frames := 0, cells := 0, slots := 0, locals := 0 } : Room)) (fun a U => a = #[(.ref va)] ∧ Z.Warmed39 U.vm ∧ U.heap = h0) (fun _ _ _ _ _ => True) (fun _ U o U' => ∃ v L, o = .returned v ∧ Q10 Z va vn vf ve h0 n0 v U'.heap L ∧ FrameEnd U o U' L ({ frames := 0, cells := 0, slots := 0, locals := 0 } : Room).cells ({ frames := 0, cells := 0, slots := 0, locals := 0 } : Room).slots) := by
  refine MetFree.of_bodySF (plainFor_of_name pn_48) hisR ?_
  intro p e s m args below meth c s₁ Bd hml0 hP hK
  obtain ⟨rfl, hZ, hh⟩ := hP
  have hx := Bd.exec
  have hby := Bd.bytes
  have hml : c.maxLocals = 1 := hml0
  have hown : s.vm.findClass "com/example/causeline/causeline/core/Filing" = some m.cls := findClass_of_methodNamed Bd.named
  have hnm := (name_of_methodNamed Bd.named Bd.method).1
  have X0 : Stand p l e ({ frames := 0, cells := 0, slots := 0, locals := 0 } : Room) s m #[(.ref va)] below meth c s₁ [] 0 0 := Stand.of_body Bd
  have e0 : s₁.heap = h0 := by rw [← hh, Bd.state]; rfl
  have N0 := Fr.nil n0
  have pre0 : ∀ t, Steps p.tables e below (s₁.setTop (mkF m 0 #[.val (.ref va)] [])) t → Steps p.tables e below (s₁.setTop (entryFrame m #[(.ref va)] 1)) t := fun t k => castTop (ef_rm10 m va) k
  obtain ⟨T1, X1, e1, st1⟩ := getF X0 hx hZ hown (host := "") (Or.inl (hw _ (List.mem_of_getElem? (i := 72) rfl))) Via.refl e0 Ff (g := (mkF m 1 #[.val (.ref va)] [(.ref va)])) rfl rfl (hb hby d10_1)
  obtain ⟨T2, X2, e2, st2⟩ := getF X1 hx hZ hown (host := "") (Or.inl (hw _ (List.mem_of_getElem? (i := 66) rfl))) Via.refl e1 Fe (g := (mkF m 5 #[.val (.ref va)] [(.ref va), (.int vf)])) rfl rfl (hb hby d10_5)
  have pre3 : ∀ t, Steps p.tables e below (T2.setTop (mkF m 8 #[.val (.ref va)] [(.int ve), (.int vf)])) t → Steps p.tables e below (s₁.setTop (entryFrame m #[(.ref va)] 1)) t := by
    intro t kt
    refine pre0 t ?_
    show Steps p.tables e below (s₁.setTop (mkF m 0 #[.val (.ref va)] [])) _
    refine XS.aloadN X0.here hx rfl (hb hby d10_0) rfl rfl ?_
    show Steps p.tables e below (s₁.setTop (mkF m 1 #[.val (.ref va)] [(.ref va)])) _
    refine st1 _ ?_
    show Steps p.tables e below (T1.setTop (mkF m 4 #[.val (.ref va)] [(.int vf)])) _
    refine XS.aloadN X1.here hx rfl (hb hby d10_4) rfl rfl ?_
    show Steps p.tables e below (T1.setTop (mkF m 5 #[.val (.ref va)] [(.ref va), (.int vf)])) _
    refine st2 _ ?_
    exact kt
  by_cases hc4 : vf = ve
  ·
    obtain ⟨T5, h5, X5, e5, W5, st5⟩ := putF X2 hx hZ hown (host := "") (Or.inl (hw _ (List.mem_of_getElem? (i := 72) rfl))) Via.refl e2 Ff Ea (Or.inl (hw _ (List.mem_of_getElem? (i := 73) rfl))) (hw _ (List.mem_of_getElem? (i := 6) rfl)) (ty := .int) (by decide) rfl rfl (g := (mkF m 13 #[.val (.ref va)] [(.int (0 : Int32)), (.ref va)])) rfl rfl (hb hby d10_13)
    have Fw5 : Fld Z h5 va "com/example/causeline/causeline/core/Filing" "first" "I" (.int (0 : Int32)) := Ff.same W5
    have c6 : Exa Z h5 va "com/example/causeline/causeline/core/Filing" := Ea.wr W5
    have c7 : Fld Z h5 va "com/example/causeline/causeline/core/Filing" "numbers" "[J" (.ref vn) := Fn.other W5 (Or.inr (slot_ne (Or.inl (hw _ (List.mem_of_getElem? (i := 31) rfl))) (Or.inl (hw _ (List.mem_of_getElem? (i := 73) rfl))) (by decide) (t := (.array .long)) (t' := .int) (by decide) (by decide)))
    have c8 : Fld Z h5 va "com/example/causeline/causeline/core/Filing" "end" "I" (.int ve) := Fe.other W5 (Or.inr (slot_ne (Or.inl (hw _ (List.mem_of_getElem? (i := 67) rfl))) (Or.inl (hw _ (List.mem_of_getElem? (i := 73) rfl))) (by decide) (t := .int) (t' := .int) (by decide) (by decide)))
    have Z5 : n0 ≤ h5.size := Nat.le_trans Z0 (Keep.of_wr W5).1
    have N5 := Fr.snoc X5 N0 g_va
    have K5 : Keep h0 h5 [va] := (Keep.refl h0 [va]).wr W5 (Or.inl (List.mem_of_getElem? (i := 0) rfl))
    obtain ⟨T9, h9, X9, e9, W9, st9⟩ := putF X5 hx hZ hown (host := "") (Or.inl (hw _ (List.mem_of_getElem? (i := 66) rfl))) Via.refl e5 c8 c6 (Or.inl (hw _ (List.mem_of_getElem? (i := 67) rfl))) (hw _ (List.mem_of_getElem? (i := 6) rfl)) (ty := .int) (by decide) rfl rfl (g := (mkF m 18 #[.val (.ref va)] [(.int (0 : Int32)), (.ref va)])) rfl rfl (hb hby d10_18)
    have Fw9 : Fld Z h9 va "com/example/causeline/causeline/core/Filing" "end" "I" (.int (0 : Int32)) := c8.same W9
    have c10 : Exa Z h9 va "com/example/causeline/causeline/core/Filing" := c6.wr W9
    have c11 : Fld Z h9 va "com/example/causeline/causeline/core/Filing" "numbers" "[J" (.ref vn) := c7.other W9 (Or.inr (slot_ne (Or.inl (hw _ (List.mem_of_getElem? (i := 31) rfl))) (Or.inl (hw _ (List.mem_of_getElem? (i := 67) rfl))) (by decide) (t := (.array .long)) (t' := .int) (by decide) (by decide)))
    have c12 : Fld Z h9 va "com/example/causeline/causeline/core/Filing" "first" "I" (.int (0 : Int32)) := Fw5.other W9 (Or.inr (slot_ne (Or.inl (hw _ (List.mem_of_getElem? (i := 73) rfl))) (Or.inl (hw _ (List.mem_of_getElem? (i := 67) rfl))) (by decide) (t := .int) (t' := .int) (by decide) (by decide)))
    have Z9 : n0 ≤ h9.size := Nat.le_trans Z5 (Keep.of_wr W9).1
    have N9 := Fr.snoc X9 N5 g_va
    have K9 : Keep h0 h9 [va] := K5.wr W9 (Or.inl (List.mem_of_getElem? (i := 0) rfl))
    obtain ⟨fs, hr, hrun, hended, hW, hsame⟩ := X9.leave (v := none) (fun _ => rfl) (hlocks := BodyLoose.notSynchronized Bd)
    refine ⟨_, _, pre3 _ ?_, hrun, hended, _, _, rfl, ?_, ⟨_, rfl⟩, hW, hsame.mono (by decide) (by decide)⟩
    ·
      show Steps p.tables e below (T2.setTop (mkF m 8 #[.val (.ref va)] [(.int ve), (.int vf)])) _
      refine XS.icmpNo X2.here hx rfl (hb hby d10_8) rfl (teq (hc4 : vf = ve)).2 ?_
      show Steps p.tables e below (T2.setTop (mkF m 11 #[.val (.ref va)] [])) _
      refine XS.aloadN X2.here hx rfl (hb hby d10_11) rfl rfl ?_
      show Steps p.tables e below (T2.setTop (mkF m 12 #[.val (.ref va)] [(.ref va)])) _
      refine XS.iconst X2.here hx rfl (hb hby d10_12) ?_
      show Steps p.tables e below (T2.setTop (mkF m 13 #[.val (.ref va)] [(.int (0 : Int32)), (.ref va)])) _
      refine st5 _ ?_
      show Steps p.tables e below (T5.setTop (mkF m 16 #[.val (.ref va)] [])) _
      refine XS.aloadN X5.here hx rfl (hb hby d10_16) rfl rfl ?_
      show Steps p.tables e below (T5.setTop (mkF m 17 #[.val (.ref va)] [(.ref va)])) _
      refine XS.iconst X5.here hx rfl (hb hby d10_17) ?_
      show Steps p.tables e below (T5.setTop (mkF m 18 #[.val (.ref va)] [(.int (0 : Int32)), (.ref va)])) _
      refine st9 _ ?_
      show Steps p.tables e below (T9.setTop (mkF m 21 #[.val (.ref va)] [])) _
      exact X9.returnOut hx Bd.returns (hb hby d10_21) hr
    ·
      show Q10 Z va vn vf ve h0 n0 _ T9.heap _
      rw [e9]
      exact ⟨rfl, N9, K9, c10, c11, (by rw [own_ef, if_pos hc4]; exact c12), (by rw [own_ee, if_pos hc4]; exact Fw9)⟩
  ·
    obtain ⟨fs, hr, hrun, hended, hW, hsame⟩ := X2.leave (v := none) (fun _ => rfl) (hlocks := BodyLoose.notSynchronized Bd)
    refine ⟨_, _, pre3 _ ?_, hrun, hended, _, _, rfl, ?_, ⟨_, rfl⟩, hW, hsame.mono (by decide) (by decide)⟩
    ·
      show Steps p.tables e below (T2.setTop (mkF m 8 #[.val (.ref va)] [(.int ve), (.int vf)])) _
      refine XS.icmpYes X2.here hx rfl (pc0 := 8) (pc' := 21) rfl (hb hby d10_8) rfl (feq (hc4 : ¬ (vf = ve))).2 (by decide) (by decide) ?_
      show Steps p.tables e below (T2.setTop (mkF m 21 #[.val (.ref va)] [])) _
      exact X2.returnOut hx Bd.returns (hb hby d10_21) hr
    ·
      show Q10 Z va vn vf ve h0 n0 _ T2.heap _
      rw [e2]
      exact ⟨rfl, N0, (Keep.refl h0 [va]), Ea, Fn, (by rw [own_ef, if_neg hc4]; exact Ff), (by rw [own_ee, if_neg hc4]; exact Fe)⟩
theorem d9_0 : decode prog_36_method_5_code 0 = .ok (.iload_n 1, 1) := by decide +kernel
theorem d9_1 : decode prog_36_method_5_code 1 = .ok (.aload_n 0, 1) := by decide +kernel
theorem d9_2 : decode prog_36_method_5_code 2 = .ok (.getfield 30, 3) := by decide +kernel
theorem d9_5 : decode prog_36_method_5_code 5 = .ok (.isub, 1) := by decide +kernel
theorem d9_6 : decode prog_36_method_5_code 6 = .ok (.istore_n 2, 1) := by decide +kernel
theorem d9_7 : decode prog_36_method_5_code 7 = .ok (.aload_n 0, 1) := by decide +kernel
theorem d9_8 : decode prog_36_method_5_code 8 = .ok (.iload_n 1, 1) := by decide +kernel
theorem d9_9 : decode prog_36_method_5_code 9 = .ok (.putfield 30, 3) := by decide +kernel
theorem d9_12 : decode prog_36_method_5_code 12 = .ok (.aload_n 0, 1) := by decide +kernel
theorem d9_13 : decode prog_36_method_5_code 13 = .ok (.invokevirtual 56, 3) := by decide +kernel
theorem d9_16 : decode prog_36_method_5_code 16 = .ok (.iload_n 2, 1) := by decide +kernel
theorem d9_17 : decode prog_36_method_5_code 17 = .ok (.ireturn, 1) := by decide +kernel
theorem ef_rm9 (m : MethodId) (x0 : Addr) (x1 : Int32) : entryFrame m #[(.ref x0), (.int x1)] 3 = mkF m 0 #[.val (.ref x0), .val (.int x1), .unset] [] := by first | (simp [entryFrame, mkF, argsToLocals, Value.category]; done) | rfl
def Q9 (Z : State) (va : Addr) (vd : Int32) (vn : Addr) (vf ve : Int32) (h0 : Heap) (n0 : Nat) (v : Option Value) (h : Heap) (L : List Loc) : Prop := v = some (.int (vd - vf)) ∧ Fr n0 L ∧ Keep h0 h [va] ∧ Exa Z h va "com/example/causeline/causeline/core/Filing" ∧ Fld Z h va "com/example/causeline/causeline/core/Filing" "numbers" "[J" (.ref vn) ∧ Fld Z h va "com/example/causeline/causeline/core/Filing" "first" "I" (.int (own_ef vd ve)) ∧ Fld Z h va "com/example/causeline/causeline/core/Filing" "end" "I" (.int (own_ee vd ve))
set_option maxRecDepth 65536 in
set_option maxHeartbeats 40000000 in
theorem rm9 (l : Launch) (Z : State) (a0 : Array Value) (hw : ∀ d ∈ tables_1, d.before a0 Z = true) (ws : List Jvm.Cond) (va : Addr) (vd : Int32) (vn : Addr) (vf ve : Int32) (h0 : Heap) (n0 : Nat) (Z0 : n0 ≤ h0.size) (Ea : Exa Z h0 va "com/example/causeline/causeline/core/Filing") (Fn : Fld Z h0 va "com/example/causeline/causeline/core/Filing" "numbers" "[J" (.ref vn)) (Ff : Fld Z h0 va "com/example/causeline/causeline/core/Filing" "first" "I" (.int vf)) (Fe : Fld Z h0 va "com/example/causeline/causeline/core/Filing" "end" "I" (.int ve)) (g_va : n0 ≤ va) :
    MetFree l (⟨"com/example/causeline/causeline/core/Filing", "removeBefore", "(I)I"⟩ : MethodName) (head1 (Jvm.Cond.code (⟨"com/example/causeline/causeline/core/Filing", "removeBefore", "(I)I"⟩ : MethodName) prog_36_method_5_code 3 (some .int) :: ws) ({ frames := 1, cells := 0, slots := 0, locals := 12 } : Room)) (fun a U => a = #[(.ref va), (.int vd)] ∧ Z.Warmed39 U.vm ∧ U.heap = h0) (fun _ _ _ _ _ => True) (fun _ U o U' => ∃ v L, o = .returned v ∧ Q9 Z va vd vn vf ve h0 n0 v U'.heap L ∧ FrameEnd U o U' L ({ frames := 1, cells := 0, slots := 0, locals := 12 } : Room).cells ({ frames := 1, cells := 0, slots := 0, locals := 12 } : Room).slots) := by
  refine MetFree.of_bodySF (plainFor_of_name pn_48) hisR ?_
  intro p e s m args below meth c s₁ Bd hml0 hP hK
  obtain ⟨rfl, hZ, hh⟩ := hP
  have hx := Bd.exec
  have hby := Bd.bytes
  have hml : c.maxLocals = 3 := hml0
  have hown : s.vm.findClass "com/example/causeline/causeline/core/Filing" = some m.cls := findClass_of_methodNamed Bd.named
  have hnm := (name_of_methodNamed Bd.named Bd.method).1
  have X0 : Stand p l e ({ frames := 1, cells := 0, slots := 0, locals := 12 } : Room) s m #[(.ref va), (.int vd)] below meth c s₁ [] 0 0 := Stand.of_body Bd
  have e0 : s₁.heap = h0 := by rw [← hh, Bd.state]; rfl
  have N0 := Fr.nil n0
  have pre0 : ∀ t, Steps p.tables e below (s₁.setTop (mkF m 0 #[.val (.ref va), .val (.int vd), .unset] [])) t → Steps p.tables e below (s₁.setTop (entryFrame m #[(.ref va), (.int vd)] 3)) t := fun t k => castTop (ef_rm9 m va vd) k
  obtain ⟨T1, X1, e1, st1⟩ := getF X0 hx hZ hown (host := "") (Or.inl (hw _ (List.mem_of_getElem? (i := 72) rfl))) Via.refl e0 Ff (g := (mkF m 2 #[.val (.ref va), .val (.int vd), .unset] [(.ref va), (.int vd)])) rfl rfl (hb hby d9_2)
  obtain ⟨T2, h2, X2, e2, W2, st2⟩ := putF X1 hx hZ hown (host := "") (Or.inl (hw _ (List.mem_of_getElem? (i := 72) rfl))) Via.refl e1 Ff Ea (Or.inl (hw _ (List.mem_of_getElem? (i := 73) rfl))) (hw _ (List.mem_of_getElem? (i := 6) rfl)) (ty := .int) (by decide) rfl rfl (g := (mkF m 9 #[.val (.ref va), .val (.int vd), .val (.int (vd - vf))] [(.int vd), (.ref va)])) rfl rfl (hb hby d9_9)
  have Fw2 : Fld Z h2 va "com/example/causeline/causeline/core/Filing" "first" "I" (.int vd) := Ff.same W2
  have c3 : Exa Z h2 va "com/example/causeline/causeline/core/Filing" := Ea.wr W2
  have c4 : Fld Z h2 va "com/example/causeline/causeline/core/Filing" "numbers" "[J" (.ref vn) := Fn.other W2 (Or.inr (slot_ne (Or.inl (hw _ (List.mem_of_getElem? (i := 31) rfl))) (Or.inl (hw _ (List.mem_of_getElem? (i := 73) rfl))) (by decide) (t := (.array .long)) (t' := .int) (by decide) (by decide)))
  have c5 : Fld Z h2 va "com/example/causeline/causeline/core/Filing" "end" "I" (.int ve) := Fe.other W2 (Or.inr (slot_ne (Or.inl (hw _ (List.mem_of_getElem? (i := 67) rfl))) (Or.inl (hw _ (List.mem_of_getElem? (i := 73) rfl))) (by decide) (t := .int) (t' := .int) (by decide) (by decide)))
  have Z2 : n0 ≤ h2.size := Nat.le_trans Z0 (Keep.of_wr W2).1
  have N2 := Fr.snoc X2 N0 g_va
  have K2 : Keep h0 h2 [va] := (Keep.refl h0 [va]).wr W2 (Or.inl (List.mem_of_getElem? (i := 0) rfl))
  obtain ⟨cq6, q6, q6'⟩ := c3.cell
  obtain ⟨_, _, ⟨T6, L6, k6, n6⟩, -, X6, ⟨Lc6, hQ6, l6, y6, z6⟩, st6⟩ := X2.privateBack hx (y := (⟨"com/example/causeline/causeline/core/Filing", "emptied", "()V"⟩ : MethodName)) hown (mvT hZ (hw _ (List.mem_of_getElem? (i := 88) rfl))) (mvT hZ (hw _ (List.mem_of_getElem? (i := 89) rfl))) (own_selp (mvT hZ (hw _ (List.mem_of_getElem? (i := 6) rfl))) (Cond.privateMethod_at (mvP hZ (hw _ (List.mem_of_getElem? (i := 90) rfl)) (args := #[]))) (mvT hZ (hw _ (List.mem_of_getElem? (i := 89) rfl)))) (Cond.privateMethod_at (mvP hZ (hw _ (List.mem_of_getElem? (i := 90) rfl)) (args := #[]))) (mvT hZ (hw _ (List.mem_of_getElem? (i := 91) rfl))) (by decide) (backOf (W := 0) (rm10 l Z a0 hw [] va vn vd ve h2 n0 Z2 c3 c4 Fw2 c5 g_va) hZ (hw _ (List.mem_of_getElem? (i := 91) rfl)) (hw _ (List.mem_of_getElem? (i := 7) rfl)) (by decide) (by decide)) (g := (mkF m 13 #[.val (.ref va), .val (.int vd), .val (.int (vd - vf))] [(.ref va)])) rfl (by rw [hml]; rfl) (Steps.refl _) (a := va) (by rw [e2]; exact q6) q6' (argsL := []) (rest := []) (lenOf pd_1 rfl) rfl (by show 2 * 0 + _ ≤ _; exact Nat.le_of_eq rfl) (hb hby d9_13) (fun _ _ => ⟨rfl, e2, (by decide : 0 + 0 ≤ _), (by decide : 0 + 0 ≤ _)⟩)
  dsimp only [Pt.U, Pt.locs, Pt.cells, Pt.slots] at X6 l6 y6 z6 st6 hQ6
  obtain rfl : k6 = 0 := y6; obtain rfl : n6 = 0 := z6
  obtain ⟨rfl, N6q, K6q, f6_0, f6_1, f6_2, f6_3⟩ := hQ6
  have N6 : Fr n0 L6 := Eq.mpr (congrArg (Fr n0) l6) (Fr.app N2 N6q)
  have Z6 : n0 ≤ T6.heap.size := Nat.le_trans Z2 K6q.1
  have c7 : Exa Z T6.heap va "com/example/causeline/causeline/core/Filing" := c3.keep K6q
  have K6 : Keep h0 T6.heap [va] := K2.trans K6q (allS (Or.inl (List.mem_of_getElem? (i := 0) rfl)) all0)
  obtain ⟨fs, hr, hrun, hended, hW, hsame⟩ := X6.leave (v := some (.int (vd - vf))) (fun h => by rw [Bd.returns] at h; cases h) (hlocks := BodyLoose.notSynchronized Bd)
  refine ⟨_, _, pre0 _ ?_, hrun, hended, _, _, rfl, ?_, ⟨_, rfl⟩, hW, hsame.mono (by decide) (by decide)⟩
  ·
    show Steps p.tables e below (s₁.setTop (mkF m 0 #[.val (.ref va), .val (.int vd), .unset] [])) _
    refine XS.iloadN X0.here hx rfl (hb hby d9_0) rfl ?_
    show Steps p.tables e below (s₁.setTop (mkF m 1 #[.val (.ref va), .val (.int vd), .unset] [(.int vd)])) _
    refine XS.aloadN X0.here hx rfl (hb hby d9_1) rfl rfl ?_
    show Steps p.tables e below (s₁.setTop (mkF m 2 #[.val (.ref va), .val (.int vd), .unset] [(.ref va), (.int vd)])) _
    refine st1 _ ?_
    show Steps p.tables e below (T1.setTop (mkF m 5 #[.val (.ref va), .val (.int vd), .unset] [(.int vf), (.int vd)])) _
    refine XS.isub X1.here hx rfl (hb hby d9_5) rfl ?_
    show Steps p.tables e below (T1.setTop (mkF m 6 #[.val (.ref va), .val (.int vd), .unset] [(.int (vd - vf))])) _
    refine XS.istoreN X1.here hx rfl (hb hby d9_6) rfl (l' := #[.val (.ref va), .val (.int vd), .val (.int (vd - vf))]) rfl ?_
    show Steps p.tables e below (T1.setTop (mkF m 7 #[.val (.ref va), .val (.int vd), .val (.int (vd - vf))] [])) _
    refine XS.aloadN X1.here hx rfl (hb hby d9_7) rfl rfl ?_
    show Steps p.tables e below (T1.setTop (mkF m 8 #[.val (.ref va), .val (.int vd), .val (.int (vd - vf))] [(.ref va)])) _
    refine XS.iloadN X1.here hx rfl (hb hby d9_8) rfl ?_
    show Steps p.tables e below (T1.setTop (mkF m 9 #[.val (.ref va), .val (.int vd), .val (.int (vd - vf))] [(.int vd), (.ref va)])) _
    refine st2 _ ?_
    show Steps p.tables e below (T2.setTop (mkF m 12 #[.val (.ref va), .val (.int vd), .val (.int (vd - vf))] [])) _
    refine XS.aloadN X2.here hx rfl (hb hby d9_12) rfl rfl ?_
    show Steps p.tables e below (T2.setTop (mkF m 13 #[.val (.ref va), .val (.int vd), .val (.int (vd - vf))] [(.ref va)])) _
    refine st6.trans ?_
    show Steps p.tables e below (T6.setTop (mkF m 16 #[.val (.ref va), .val (.int vd), .val (.int (vd - vf))] [])) _
    refine XS.iloadN X6.here hx rfl (hb hby d9_16) rfl ?_
    show Steps p.tables e below (T6.setTop (mkF m 17 #[.val (.ref va), .val (.int vd), .val (.int (vd - vf))] [(.int (vd - vf))])) _
    exact retOut X6 hx (t := .int) (i := .ireturn) Bd.returns rfl (Or.inl ⟨rfl, Or.inl rfl, _, rfl⟩) (hb hby d9_17) hr
  ·
    show Q9 Z va vd vn vf ve h0 n0 _ T6.heap _
    exact ⟨rfl, N6, K6, f6_0, f6_1, f6_2, f6_3⟩
theorem d12_0 : decode method_3_code 0 = .ok (.iload_n 1, 1) := by decide +kernel
theorem d12_1 : decode method_3_code 1 = .ok (.iload_n 2, 1) := by decide +kernel
theorem d12_2 : decode method_3_code 2 = .ok (.if_icmp .lt 21, 3) := by decide +kernel
theorem d12_23 : decode method_3_code 23 = .ok (.iconst 0, 1) := by decide +kernel
theorem d12_24 : decode method_3_code 24 = .ok (.ireturn, 1) := by decide +kernel
theorem d12_5 : decode method_3_code 5 = .ok (.iload_n 1, 1) := by decide +kernel
theorem d12_6 : decode method_3_code 6 = .ok (.iload_n 3, 1) := by decide +kernel
theorem d12_7 : decode method_3_code 7 = .ok (.if_icmp .ge 16, 3) := by decide +kernel
theorem d12_10 : decode method_3_code 10 = .ok (.aload_n 0, 1) := by decide +kernel
theorem d12_11 : decode method_3_code 11 = .ok (.iload_n 1, 1) := by decide +kernel
theorem d12_12 : decode method_3_code 12 = .ok (.laload, 1) := by decide +kernel
theorem d12_13 : decode method_3_code 13 = .ok (.lload 4, 2) := by decide +kernel
theorem d12_15 : decode method_3_code 15 = .ok (.lcmp, 1) := by decide +kernel
theorem d12_16 : decode method_3_code 16 = .ok (.ifCond .gt 7, 3) := by decide +kernel
theorem d12_19 : decode method_3_code 19 = .ok (.iconst 1, 1) := by decide +kernel
theorem d12_20 : decode method_3_code 20 = .ok (.goto 4, 3) := by decide +kernel
theorem ef_rmIn0 (m : MethodId) (x0 : Addr) (x1 : Int32) (x2 : Int32) (x3 : Int32) (x4 : Int64) : entryFrame m #[(.ref x0), (.int x1), (.int x2), (.int x3), (.long x4)] 6 = mkF m 0 #[.val (.ref x0), .val (.int x1), .val (.int x2), .val (.int x3), .val (.long x4), .second] [] := by first | (simp [entryFrame, mkF, argsToLocals, Value.category]; done) | rfl
def own_in0 (va : Addr) (vd : Int32) (vk : Int32) (vq : Int64) (x0 : Int64) (x1 : Int64) (x2 : Int64) (x3 : Int64) : Int32 := (if (0 : Int32) < vd then (0 : Int32) else (if (0 : Int32) < vk then (if vq < x0 then (0 : Int32) else (1 : Int32)) else (0 : Int32)))
def QIn0 (Z : State) (va : Addr) (vd : Int32) (vk : Int32) (vq : Int64) (x0 : Int64) (x1 : Int64) (x2 : Int64) (x3 : Int64) (kb : ClassId) (h0 : Heap) (n0 : Nat) (v : Option Value) (h : Heap) (L : List Loc) : Prop := v = some (.int (own_in0 va vd vk vq x0 x1 x2 x3)) ∧ Fr n0 L ∧ h = h0
set_option maxRecDepth 65536 in
set_option maxHeartbeats 40000000 in
theorem rmIn0 (l : Launch) (Z : State) (a0 : Array Value) (hw : ∀ d ∈ tables_1, d.before a0 Z = true) (ws : List Jvm.Cond) (va : Addr) (vd : Int32) (vk : Int32) (vq : Int64) (x0 : Int64) (x1 : Int64) (x2 : Int64) (x3 : Int64) (kb : ClassId) (h0 : Heap) (n0 : Nat) (Z0 : n0 ≤ h0.size) (Va : Arv Z h0 va kb .long (4 : Int32) [(.long x0), (.long x1), (.long x2), (.long x3)] (.long (0 : Int64))) :
    MetFree l (⟨"com/example/causeline/causeline/core/FilingPastPinLaw", "in", "([JIIIJ)I"⟩ : MethodName) (head1 (Jvm.Cond.code (⟨"com/example/causeline/causeline/core/FilingPastPinLaw", "in", "([JIIIJ)I"⟩ : MethodName) method_3_code 6 (some .int) :: ws) ({ frames := 0, cells := 0, slots := 0, locals := 0 } : Room)) (fun a U => a = #[(.ref va), (.int (0 : Int32)), (.int vd), (.int vk), (.long vq)] ∧ Z.Warmed39 U.vm ∧ U.heap = h0) (fun _ _ _ _ _ => True) (fun _ U o U' => ∃ v L, o = .returned v ∧ QIn0 Z va vd vk vq x0 x1 x2 x3 kb h0 n0 v U'.heap L ∧ FrameEnd U o U' L ({ frames := 0, cells := 0, slots := 0, locals := 0 } : Room).cells ({ frames := 0, cells := 0, slots := 0, locals := 0 } : Room).slots) := by
  refine MetFree.of_bodySF (plainFor_of_name pn_23) hisR ?_
  intro p e s m args below meth c s₁ Bd hml0 hP hK
  obtain ⟨rfl, hZ, hh⟩ := hP
  have hx := Bd.exec
  have hby := Bd.bytes
  have hml : c.maxLocals = 6 := hml0
  have hown : s.vm.findClass "com/example/causeline/causeline/core/FilingPastPinLaw" = some m.cls := findClass_of_methodNamed Bd.named
  have hnm := (name_of_methodNamed Bd.named Bd.method).1
  have X0 : Stand p l e ({ frames := 0, cells := 0, slots := 0, locals := 0 } : Room) s m #[(.ref va), (.int (0 : Int32)), (.int vd), (.int vk), (.long vq)] below meth c s₁ [] 0 0 := Stand.of_body Bd
  have e0 : s₁.heap = h0 := by rw [← hh, Bd.state]; rfl
  have N0 := Fr.nil n0
  have pre0 : ∀ t, Steps p.tables e below (s₁.setTop (mkF m 0 #[.val (.ref va), .val (.int (0 : Int32)), .val (.int vd), .val (.int vk), .val (.long vq), .second] [])) t → Steps p.tables e below (s₁.setTop (entryFrame m #[(.ref va), (.int (0 : Int32)), (.int vd), (.int vk), (.long vq)] 6)) t := fun t k => castTop (ef_rmIn0 m va (0 : Int32) vd vk vq) k
  have pre1 : ∀ t, Steps p.tables e below (s₁.setTop (mkF m 2 #[.val (.ref va), .val (.int (0 : Int32)), .val (.int vd), .val (.int vk), .val (.long vq), .second] [(.int vd), (.int (0 : Int32))])) t → Steps p.tables e below (s₁.setTop (entryFrame m #[(.ref va), (.int (0 : Int32)), (.int vd), (.int vk), (.long vq)] 6)) t := by
    intro t kt
    refine pre0 t ?_
    show Steps p.tables e below (s₁.setTop (mkF m 0 #[.val (.ref va), .val (.int (0 : Int32)), .val (.int vd), .val (.int vk), .val (.long vq), .second] [])) _
    refine XS.iloadN X0.here hx rfl (hb hby d12_0) rfl ?_
    show Steps p.tables e below (s₁.setTop (mkF m 1 #[.val (.ref va), .val (.int (0 : Int32)), .val (.int vd), .val (.int vk), .val (.long vq), .second] [(.int (0 : Int32))])) _
    refine XS.iloadN X0.here hx rfl (hb hby d12_1) rfl ?_
    exact kt
  by_cases hc2 : (0 : Int32) < vd
  ·
    obtain ⟨fs, hr, hrun, hended, hW, hsame⟩ := X0.leave (v := some (.int (0 : Int32))) (fun h => by rw [Bd.returns] at h; cases h) (hlocks := BodyLoose.notSynchronized Bd)
    refine ⟨_, _, pre1 _ ?_, hrun, hended, _, _, rfl, ?_, ⟨_, rfl⟩, hW, hsame.mono (by decide) (by decide)⟩
    ·
      show Steps p.tables e below (s₁.setTop (mkF m 2 #[.val (.ref va), .val (.int (0 : Int32)), .val (.int vd), .val (.int vk), .val (.long vq), .second] [(.int vd), (.int (0 : Int32))])) _
      refine XS.icmpYes X0.here hx rfl (pc0 := 2) (pc' := 23) rfl (hb hby d12_2) rfl (tlt (hc2 : (0 : Int32) < vd)).1 (by decide) (by decide) ?_
      show Steps p.tables e below (s₁.setTop (mkF m 23 #[.val (.ref va), .val (.int (0 : Int32)), .val (.int vd), .val (.int vk), .val (.long vq), .second] [])) _
      refine XS.iconst X0.here hx rfl (hb hby d12_23) ?_
      show Steps p.tables e below (s₁.setTop (mkF m 24 #[.val (.ref va), .val (.int (0 : Int32)), .val (.int vd), .val (.int vk), .val (.long vq), .second] [(.int (0 : Int32))])) _
      exact retOut X0 hx (t := .int) (i := .ireturn) Bd.returns rfl (Or.inl ⟨rfl, Or.inl rfl, _, rfl⟩) (hb hby d12_24) hr
    ·
      show QIn0 Z va vd vk vq x0 x1 x2 x3 kb h0 n0 _ s₁.heap _
      rw [e0]
      have hv : (0 : Int32) = (own_in0 va vd vk vq x0 x1 x2 x3) := by rw [own_in0, if_pos hc2]
      exact ⟨(congrArg (fun z => some (Value.int z)) hv), N0, rfl⟩
  ·
    have pre3 : ∀ t, Steps p.tables e below (s₁.setTop (mkF m 7 #[.val (.ref va), .val (.int (0 : Int32)), .val (.int vd), .val (.int vk), .val (.long vq), .second] [(.int vk), (.int (0 : Int32))])) t → Steps p.tables e below (s₁.setTop (entryFrame m #[(.ref va), (.int (0 : Int32)), (.int vd), (.int vk), (.long vq)] 6)) t := by
      intro t kt
      refine pre1 t ?_
      show Steps p.tables e below (s₁.setTop (mkF m 2 #[.val (.ref va), .val (.int (0 : Int32)), .val (.int vd), .val (.int vk), .val (.long vq), .second] [(.int vd), (.int (0 : Int32))])) _
      refine XS.icmpNo X0.here hx rfl (hb hby d12_2) rfl (flt (hc2 : ¬ ((0 : Int32) < vd))).1 ?_
      show Steps p.tables e below (s₁.setTop (mkF m 5 #[.val (.ref va), .val (.int (0 : Int32)), .val (.int vd), .val (.int vk), .val (.long vq), .second] [])) _
      refine XS.iloadN X0.here hx rfl (hb hby d12_5) rfl ?_
      show Steps p.tables e below (s₁.setTop (mkF m 6 #[.val (.ref va), .val (.int (0 : Int32)), .val (.int vd), .val (.int vk), .val (.long vq), .second] [(.int (0 : Int32))])) _
      refine XS.iloadN X0.here hx rfl (hb hby d12_6) rfl ?_
      exact kt
    by_cases hc4 : (0 : Int32) < vk
    ·
      obtain ⟨cl5, Ar5, q5, S5, NN5, HH5, GG5⟩ := id Va
      have hin5 : ¬ ((0 : Int32) < 0 ∨ cl5.slots.size ≤ ((0 : Int32)).toNatClampNeg) := inb_of S5 ⟨by decide, by decide⟩
      have hat5 : cl5.slots[((0 : Int32)).toNatClampNeg]? = some (.long x0) := HH5.at hin5 rfl
      have pre6 : ∀ t, Steps p.tables e below (s₁.setTop (mkF m 16 #[.val (.ref va), .val (.int (0 : Int32)), .val (.int vd), .val (.int vk), .val (.long vq), .second] [(.int (lcmpW x0 vq))])) t → Steps p.tables e below (s₁.setTop (entryFrame m #[(.ref va), (.int (0 : Int32)), (.int vd), (.int vk), (.long vq)] 6)) t := by
        intro t kt
        refine pre3 t ?_
        show Steps p.tables e below (s₁.setTop (mkF m 7 #[.val (.ref va), .val (.int (0 : Int32)), .val (.int vd), .val (.int vk), .val (.long vq), .second] [(.int vk), (.int (0 : Int32))])) _
        refine XS.icmpNo X0.here hx rfl (hb hby d12_7) rfl (tlt (hc4 : (0 : Int32) < vk)).2.1 ?_
        show Steps p.tables e below (s₁.setTop (mkF m 10 #[.val (.ref va), .val (.int (0 : Int32)), .val (.int vd), .val (.int vk), .val (.long vq), .second] [])) _
        refine XS.aloadN X0.here hx rfl (hb hby d12_10) rfl rfl ?_
        show Steps p.tables e below (s₁.setTop (mkF m 11 #[.val (.ref va), .val (.int (0 : Int32)), .val (.int vd), .val (.int vk), .val (.long vq), .second] [(.ref va)])) _
        refine XS.iloadN X0.here hx rfl (hb hby d12_11) rfl ?_
        show Steps p.tables e below (s₁.setTop (mkF m 12 #[.val (.ref va), .val (.int (0 : Int32)), .val (.int vd), .val (.int vk), .val (.long vq), .second] [(.int (0 : Int32)), (.ref va)])) _
        refine X0.laload hx (j := (0 : Int32)) (v := (.long x0)) (by rw [e0]; exact Ar5.1) (State.isArrayOf_alike hZ.alike Ar5.2.1) Ar5.2.2 hin5 hat5 (g := (mkF m 12 #[.val (.ref va), .val (.int (0 : Int32)), .val (.int vd), .val (.int vk), .val (.long vq), .second] [(.int (0 : Int32)), (.ref va)])) rfl rfl (hb hby d12_12) _ ?_
        show Steps p.tables e below (s₁.setTop (mkF m 13 #[.val (.ref va), .val (.int (0 : Int32)), .val (.int vd), .val (.int vk), .val (.long vq), .second] [(.long x0)])) _
        refine XS.lload X0.here hx rfl (hb hby d12_13) rfl ?_
        show Steps p.tables e below (s₁.setTop (mkF m 15 #[.val (.ref va), .val (.int (0 : Int32)), .val (.int vd), .val (.int vk), .val (.long vq), .second] [(.long vq), (.long x0)])) _
        refine XS.lcmp X0.here hx rfl (hb hby d12_15) rfl ?_
        exact kt
      by_cases hc7 : vq < x0
      ·
        obtain ⟨fs, hr, hrun, hended, hW, hsame⟩ := X0.leave (v := some (.int (0 : Int32))) (fun h => by rw [Bd.returns] at h; cases h) (hlocks := BodyLoose.notSynchronized Bd)
        refine ⟨_, _, pre6 _ ?_, hrun, hended, _, _, rfl, ?_, ⟨_, rfl⟩, hW, hsame.mono (by decide) (by decide)⟩
        ·
          show Steps p.tables e below (s₁.setTop (mkF m 16 #[.val (.ref va), .val (.int (0 : Int32)), .val (.int vd), .val (.int vk), .val (.long vq), .second] [(.int (lcmpW x0 vq))])) _
          refine XS.ifYes X0.here hx rfl (pc0 := 16) (pc' := 23) rfl (hb hby d12_16) rfl ((if0 _ _).trans (tlt (((lw_gt _ _).mpr hc7) : (0 : Int32) < (lcmpW x0 vq))).2.2.1) (by decide) (by decide) ?_
          show Steps p.tables e below (s₁.setTop (mkF m 23 #[.val (.ref va), .val (.int (0 : Int32)), .val (.int vd), .val (.int vk), .val (.long vq), .second] [])) _
          refine XS.iconst X0.here hx rfl (hb hby d12_23) ?_
          show Steps p.tables e below (s₁.setTop (mkF m 24 #[.val (.ref va), .val (.int (0 : Int32)), .val (.int vd), .val (.int vk), .val (.long vq), .second] [(.int (0 : Int32))])) _
          exact retOut X0 hx (t := .int) (i := .ireturn) Bd.returns rfl (Or.inl ⟨rfl, Or.inl rfl, _, rfl⟩) (hb hby d12_24) hr
        ·
          show QIn0 Z va vd vk vq x0 x1 x2 x3 kb h0 n0 _ s₁.heap _
          rw [e0]
          have hv : (0 : Int32) = (own_in0 va vd vk vq x0 x1 x2 x3) := by rw [own_in0, if_neg hc2, if_pos hc4, if_pos hc7]
          exact ⟨(congrArg (fun z => some (Value.int z)) hv), N0, rfl⟩
      ·
        obtain ⟨fs, hr, hrun, hended, hW, hsame⟩ := X0.leave (v := some (.int (1 : Int32))) (fun h => by rw [Bd.returns] at h; cases h) (hlocks := BodyLoose.notSynchronized Bd)
        refine ⟨_, _, pre6 _ ?_, hrun, hended, _, _, rfl, ?_, ⟨_, rfl⟩, hW, hsame.mono (by decide) (by decide)⟩
        ·
          show Steps p.tables e below (s₁.setTop (mkF m 16 #[.val (.ref va), .val (.int (0 : Int32)), .val (.int vd), .val (.int vk), .val (.long vq), .second] [(.int (lcmpW x0 vq))])) _
          refine XS.ifNo X0.here hx rfl (hb hby d12_16) rfl ((if0 _ _).trans (flt ((fun q => hc7 ((lw_gt _ _).mp q)) : ¬ ((0 : Int32) < (lcmpW x0 vq)))).2.2.1) ?_
          show Steps p.tables e below (s₁.setTop (mkF m 19 #[.val (.ref va), .val (.int (0 : Int32)), .val (.int vd), .val (.int vk), .val (.long vq), .second] [])) _
          refine XS.iconst X0.here hx rfl (hb hby d12_19) ?_
          show Steps p.tables e below (s₁.setTop (mkF m 20 #[.val (.ref va), .val (.int (0 : Int32)), .val (.int vd), .val (.int vk), .val (.long vq), .second] [(.int (1 : Int32))])) _
          refine XS.goto X0.here hx rfl (pc0 := 20) (pc' := 24) rfl (hb hby d12_20) (by decide) (by decide) ?_
          show Steps p.tables e below (s₁.setTop (mkF m 24 #[.val (.ref va), .val (.int (0 : Int32)), .val (.int vd), .val (.int vk), .val (.long vq), .second] [(.int (1 : Int32))])) _
          exact retOut X0 hx (t := .int) (i := .ireturn) Bd.returns rfl (Or.inl ⟨rfl, Or.inl rfl, _, rfl⟩) (hb hby d12_24) hr
        ·
          show QIn0 Z va vd vk vq x0 x1 x2 x3 kb h0 n0 _ s₁.heap _
          rw [e0]
          have hv : (1 : Int32) = (own_in0 va vd vk vq x0 x1 x2 x3) := by rw [own_in0, if_neg hc2, if_pos hc4, if_neg hc7]
          exact ⟨(congrArg (fun z => some (Value.int z)) hv), N0, rfl⟩
    ·
      obtain ⟨fs, hr, hrun, hended, hW, hsame⟩ := X0.leave (v := some (.int (0 : Int32))) (fun h => by rw [Bd.returns] at h; cases h) (hlocks := BodyLoose.notSynchronized Bd)
      refine ⟨_, _, pre3 _ ?_, hrun, hended, _, _, rfl, ?_, ⟨_, rfl⟩, hW, hsame.mono (by decide) (by decide)⟩
      ·
        show Steps p.tables e below (s₁.setTop (mkF m 7 #[.val (.ref va), .val (.int (0 : Int32)), .val (.int vd), .val (.int vk), .val (.long vq), .second] [(.int vk), (.int (0 : Int32))])) _
        refine XS.icmpYes X0.here hx rfl (pc0 := 7) (pc' := 23) rfl (hb hby d12_7) rfl (flt (hc4 : ¬ ((0 : Int32) < vk))).2.1 (by decide) (by decide) ?_
        show Steps p.tables e below (s₁.setTop (mkF m 23 #[.val (.ref va), .val (.int (0 : Int32)), .val (.int vd), .val (.int vk), .val (.long vq), .second] [])) _
        refine XS.iconst X0.here hx rfl (hb hby d12_23) ?_
        show Steps p.tables e below (s₁.setTop (mkF m 24 #[.val (.ref va), .val (.int (0 : Int32)), .val (.int vd), .val (.int vk), .val (.long vq), .second] [(.int (0 : Int32))])) _
        exact retOut X0 hx (t := .int) (i := .ireturn) Bd.returns rfl (Or.inl ⟨rfl, Or.inl rfl, _, rfl⟩) (hb hby d12_24) hr
      ·
        show QIn0 Z va vd vk vq x0 x1 x2 x3 kb h0 n0 _ s₁.heap _
        rw [e0]
        have hv : (0 : Int32) = (own_in0 va vd vk vq x0 x1 x2 x3) := by rw [own_in0, if_neg hc2, if_neg hc4]
        exact ⟨(congrArg (fun z => some (Value.int z)) hv), N0, rfl⟩
theorem ef_rmIn1 (m : MethodId) (x0 : Addr) (x1 : Int32) (x2 : Int32) (x3 : Int32) (x4 : Int64) : entryFrame m #[(.ref x0), (.int x1), (.int x2), (.int x3), (.long x4)] 6 = mkF m 0 #[.val (.ref x0), .val (.int x1), .val (.int x2), .val (.int x3), .val (.long x4), .second] [] := by first | (simp [entryFrame, mkF, argsToLocals, Value.category]; done) | rfl
def own_in1 (va : Addr) (vd : Int32) (vk : Int32) (vq : Int64) (x0 : Int64) (x1 : Int64) (x2 : Int64) (x3 : Int64) : Int32 := (if (1 : Int32) < vd then (0 : Int32) else (if (1 : Int32) < vk then (if vq < x1 then (0 : Int32) else (1 : Int32)) else (0 : Int32)))
def QIn1 (Z : State) (va : Addr) (vd : Int32) (vk : Int32) (vq : Int64) (x0 : Int64) (x1 : Int64) (x2 : Int64) (x3 : Int64) (kb : ClassId) (h0 : Heap) (n0 : Nat) (v : Option Value) (h : Heap) (L : List Loc) : Prop := v = some (.int (own_in1 va vd vk vq x0 x1 x2 x3)) ∧ Fr n0 L ∧ h = h0
set_option maxRecDepth 65536 in
set_option maxHeartbeats 40000000 in
theorem rmIn1 (l : Launch) (Z : State) (a0 : Array Value) (hw : ∀ d ∈ tables_1, d.before a0 Z = true) (ws : List Jvm.Cond) (va : Addr) (vd : Int32) (vk : Int32) (vq : Int64) (x0 : Int64) (x1 : Int64) (x2 : Int64) (x3 : Int64) (kb : ClassId) (h0 : Heap) (n0 : Nat) (Z0 : n0 ≤ h0.size) (Va : Arv Z h0 va kb .long (4 : Int32) [(.long x0), (.long x1), (.long x2), (.long x3)] (.long (0 : Int64))) :
    MetFree l (⟨"com/example/causeline/causeline/core/FilingPastPinLaw", "in", "([JIIIJ)I"⟩ : MethodName) (head1 (Jvm.Cond.code (⟨"com/example/causeline/causeline/core/FilingPastPinLaw", "in", "([JIIIJ)I"⟩ : MethodName) method_3_code 6 (some .int) :: ws) ({ frames := 0, cells := 0, slots := 0, locals := 0 } : Room)) (fun a U => a = #[(.ref va), (.int (1 : Int32)), (.int vd), (.int vk), (.long vq)] ∧ Z.Warmed39 U.vm ∧ U.heap = h0) (fun _ _ _ _ _ => True) (fun _ U o U' => ∃ v L, o = .returned v ∧ QIn1 Z va vd vk vq x0 x1 x2 x3 kb h0 n0 v U'.heap L ∧ FrameEnd U o U' L ({ frames := 0, cells := 0, slots := 0, locals := 0 } : Room).cells ({ frames := 0, cells := 0, slots := 0, locals := 0 } : Room).slots) := by
  refine MetFree.of_bodySF (plainFor_of_name pn_23) hisR ?_
  intro p e s m args below meth c s₁ Bd hml0 hP hK
  obtain ⟨rfl, hZ, hh⟩ := hP
  have hx := Bd.exec
  have hby := Bd.bytes
  have hml : c.maxLocals = 6 := hml0
  have hown : s.vm.findClass "com/example/causeline/causeline/core/FilingPastPinLaw" = some m.cls := findClass_of_methodNamed Bd.named
  have hnm := (name_of_methodNamed Bd.named Bd.method).1
  have X0 : Stand p l e ({ frames := 0, cells := 0, slots := 0, locals := 0 } : Room) s m #[(.ref va), (.int (1 : Int32)), (.int vd), (.int vk), (.long vq)] below meth c s₁ [] 0 0 := Stand.of_body Bd
  have e0 : s₁.heap = h0 := by rw [← hh, Bd.state]; rfl
  have N0 := Fr.nil n0
  have pre0 : ∀ t, Steps p.tables e below (s₁.setTop (mkF m 0 #[.val (.ref va), .val (.int (1 : Int32)), .val (.int vd), .val (.int vk), .val (.long vq), .second] [])) t → Steps p.tables e below (s₁.setTop (entryFrame m #[(.ref va), (.int (1 : Int32)), (.int vd), (.int vk), (.long vq)] 6)) t := fun t k => castTop (ef_rmIn1 m va (1 : Int32) vd vk vq) k
  have pre1 : ∀ t, Steps p.tables e below (s₁.setTop (mkF m 2 #[.val (.ref va), .val (.int (1 : Int32)), .val (.int vd), .val (.int vk), .val (.long vq), .second] [(.int vd), (.int (1 : Int32))])) t → Steps p.tables e below (s₁.setTop (entryFrame m #[(.ref va), (.int (1 : Int32)), (.int vd), (.int vk), (.long vq)] 6)) t := by
    intro t kt
    refine pre0 t ?_
    show Steps p.tables e below (s₁.setTop (mkF m 0 #[.val (.ref va), .val (.int (1 : Int32)), .val (.int vd), .val (.int vk), .val (.long vq), .second] [])) _
    refine XS.iloadN X0.here hx rfl (hb hby d12_0) rfl ?_
    show Steps p.tables e below (s₁.setTop (mkF m 1 #[.val (.ref va), .val (.int (1 : Int32)), .val (.int vd), .val (.int vk), .val (.long vq), .second] [(.int (1 : Int32))])) _
    refine XS.iloadN X0.here hx rfl (hb hby d12_1) rfl ?_
    exact kt
  by_cases hc2 : (1 : Int32) < vd
  ·
    obtain ⟨fs, hr, hrun, hended, hW, hsame⟩ := X0.leave (v := some (.int (0 : Int32))) (fun h => by rw [Bd.returns] at h; cases h) (hlocks := BodyLoose.notSynchronized Bd)
    refine ⟨_, _, pre1 _ ?_, hrun, hended, _, _, rfl, ?_, ⟨_, rfl⟩, hW, hsame.mono (by decide) (by decide)⟩
    ·
      show Steps p.tables e below (s₁.setTop (mkF m 2 #[.val (.ref va), .val (.int (1 : Int32)), .val (.int vd), .val (.int vk), .val (.long vq), .second] [(.int vd), (.int (1 : Int32))])) _
      refine XS.icmpYes X0.here hx rfl (pc0 := 2) (pc' := 23) rfl (hb hby d12_2) rfl (tlt (hc2 : (1 : Int32) < vd)).1 (by decide) (by decide) ?_
      show Steps p.tables e below (s₁.setTop (mkF m 23 #[.val (.ref va), .val (.int (1 : Int32)), .val (.int vd), .val (.int vk), .val (.long vq), .second] [])) _
      refine XS.iconst X0.here hx rfl (hb hby d12_23) ?_
      show Steps p.tables e below (s₁.setTop (mkF m 24 #[.val (.ref va), .val (.int (1 : Int32)), .val (.int vd), .val (.int vk), .val (.long vq), .second] [(.int (0 : Int32))])) _
      exact retOut X0 hx (t := .int) (i := .ireturn) Bd.returns rfl (Or.inl ⟨rfl, Or.inl rfl, _, rfl⟩) (hb hby d12_24) hr
    ·
      show QIn1 Z va vd vk vq x0 x1 x2 x3 kb h0 n0 _ s₁.heap _
      rw [e0]
      have hv : (0 : Int32) = (own_in1 va vd vk vq x0 x1 x2 x3) := by rw [own_in1, if_pos hc2]
      exact ⟨(congrArg (fun z => some (Value.int z)) hv), N0, rfl⟩
  ·
    have pre3 : ∀ t, Steps p.tables e below (s₁.setTop (mkF m 7 #[.val (.ref va), .val (.int (1 : Int32)), .val (.int vd), .val (.int vk), .val (.long vq), .second] [(.int vk), (.int (1 : Int32))])) t → Steps p.tables e below (s₁.setTop (entryFrame m #[(.ref va), (.int (1 : Int32)), (.int vd), (.int vk), (.long vq)] 6)) t := by
      intro t kt
      refine pre1 t ?_
      show Steps p.tables e below (s₁.setTop (mkF m 2 #[.val (.ref va), .val (.int (1 : Int32)), .val (.int vd), .val (.int vk), .val (.long vq), .second] [(.int vd), (.int (1 : Int32))])) _
      refine XS.icmpNo X0.here hx rfl (hb hby d12_2) rfl (flt (hc2 : ¬ ((1 : Int32) < vd))).1 ?_
      show Steps p.tables e below (s₁.setTop (mkF m 5 #[.val (.ref va), .val (.int (1 : Int32)), .val (.int vd), .val (.int vk), .val (.long vq), .second] [])) _
      refine XS.iloadN X0.here hx rfl (hb hby d12_5) rfl ?_
      show Steps p.tables e below (s₁.setTop (mkF m 6 #[.val (.ref va), .val (.int (1 : Int32)), .val (.int vd), .val (.int vk), .val (.long vq), .second] [(.int (1 : Int32))])) _
      refine XS.iloadN X0.here hx rfl (hb hby d12_6) rfl ?_
      exact kt
    by_cases hc4 : (1 : Int32) < vk
    ·
      obtain ⟨cl5, Ar5, q5, S5, NN5, HH5, GG5⟩ := id Va
      have hin5 : ¬ ((1 : Int32) < 0 ∨ cl5.slots.size ≤ ((1 : Int32)).toNatClampNeg) := inb_of S5 ⟨by decide, by decide⟩
      have hat5 : cl5.slots[((1 : Int32)).toNatClampNeg]? = some (.long x1) := HH5.at hin5 rfl
      have pre6 : ∀ t, Steps p.tables e below (s₁.setTop (mkF m 16 #[.val (.ref va), .val (.int (1 : Int32)), .val (.int vd), .val (.int vk), .val (.long vq), .second] [(.int (lcmpW x1 vq))])) t → Steps p.tables e below (s₁.setTop (entryFrame m #[(.ref va), (.int (1 : Int32)), (.int vd), (.int vk), (.long vq)] 6)) t := by
        intro t kt
        refine pre3 t ?_
        show Steps p.tables e below (s₁.setTop (mkF m 7 #[.val (.ref va), .val (.int (1 : Int32)), .val (.int vd), .val (.int vk), .val (.long vq), .second] [(.int vk), (.int (1 : Int32))])) _
        refine XS.icmpNo X0.here hx rfl (hb hby d12_7) rfl (tlt (hc4 : (1 : Int32) < vk)).2.1 ?_
        show Steps p.tables e below (s₁.setTop (mkF m 10 #[.val (.ref va), .val (.int (1 : Int32)), .val (.int vd), .val (.int vk), .val (.long vq), .second] [])) _
        refine XS.aloadN X0.here hx rfl (hb hby d12_10) rfl rfl ?_
        show Steps p.tables e below (s₁.setTop (mkF m 11 #[.val (.ref va), .val (.int (1 : Int32)), .val (.int vd), .val (.int vk), .val (.long vq), .second] [(.ref va)])) _
        refine XS.iloadN X0.here hx rfl (hb hby d12_11) rfl ?_
        show Steps p.tables e below (s₁.setTop (mkF m 12 #[.val (.ref va), .val (.int (1 : Int32)), .val (.int vd), .val (.int vk), .val (.long vq), .second] [(.int (1 : Int32)), (.ref va)])) _
        refine X0.laload hx (j := (1 : Int32)) (v := (.long x1)) (by rw [e0]; exact Ar5.1) (State.isArrayOf_alike hZ.alike Ar5.2.1) Ar5.2.2 hin5 hat5 (g := (mkF m 12 #[.val (.ref va), .val (.int (1 : Int32)), .val (.int vd), .val (.int vk), .val (.long vq), .second] [(.int (1 : Int32)), (.ref va)])) rfl rfl (hb hby d12_12) _ ?_
        show Steps p.tables e below (s₁.setTop (mkF m 13 #[.val (.ref va), .val (.int (1 : Int32)), .val (.int vd), .val (.int vk), .val (.long vq), .second] [(.long x1)])) _
        refine XS.lload X0.here hx rfl (hb hby d12_13) rfl ?_
        show Steps p.tables e below (s₁.setTop (mkF m 15 #[.val (.ref va), .val (.int (1 : Int32)), .val (.int vd), .val (.int vk), .val (.long vq), .second] [(.long vq), (.long x1)])) _
        refine XS.lcmp X0.here hx rfl (hb hby d12_15) rfl ?_
        exact kt
      by_cases hc7 : vq < x1
      ·
        obtain ⟨fs, hr, hrun, hended, hW, hsame⟩ := X0.leave (v := some (.int (0 : Int32))) (fun h => by rw [Bd.returns] at h; cases h) (hlocks := BodyLoose.notSynchronized Bd)
        refine ⟨_, _, pre6 _ ?_, hrun, hended, _, _, rfl, ?_, ⟨_, rfl⟩, hW, hsame.mono (by decide) (by decide)⟩
        ·
          show Steps p.tables e below (s₁.setTop (mkF m 16 #[.val (.ref va), .val (.int (1 : Int32)), .val (.int vd), .val (.int vk), .val (.long vq), .second] [(.int (lcmpW x1 vq))])) _
          refine XS.ifYes X0.here hx rfl (pc0 := 16) (pc' := 23) rfl (hb hby d12_16) rfl ((if0 _ _).trans (tlt (((lw_gt _ _).mpr hc7) : (0 : Int32) < (lcmpW x1 vq))).2.2.1) (by decide) (by decide) ?_
          show Steps p.tables e below (s₁.setTop (mkF m 23 #[.val (.ref va), .val (.int (1 : Int32)), .val (.int vd), .val (.int vk), .val (.long vq), .second] [])) _
          refine XS.iconst X0.here hx rfl (hb hby d12_23) ?_
          show Steps p.tables e below (s₁.setTop (mkF m 24 #[.val (.ref va), .val (.int (1 : Int32)), .val (.int vd), .val (.int vk), .val (.long vq), .second] [(.int (0 : Int32))])) _
          exact retOut X0 hx (t := .int) (i := .ireturn) Bd.returns rfl (Or.inl ⟨rfl, Or.inl rfl, _, rfl⟩) (hb hby d12_24) hr
        ·
          show QIn1 Z va vd vk vq x0 x1 x2 x3 kb h0 n0 _ s₁.heap _
          rw [e0]
          have hv : (0 : Int32) = (own_in1 va vd vk vq x0 x1 x2 x3) := by rw [own_in1, if_neg hc2, if_pos hc4, if_pos hc7]
          exact ⟨(congrArg (fun z => some (Value.int z)) hv), N0, rfl⟩
      ·
        obtain ⟨fs, hr, hrun, hended, hW, hsame⟩ := X0.leave (v := some (.int (1 : Int32))) (fun h => by rw [Bd.returns] at h; cases h) (hlocks := BodyLoose.notSynchronized Bd)
        refine ⟨_, _, pre6 _ ?_, hrun, hended, _, _, rfl, ?_, ⟨_, rfl⟩, hW, hsame.mono (by decide) (by decide)⟩
        ·
          show Steps p.tables e below (s₁.setTop (mkF m 16 #[.val (.ref va), .val (.int (1 : Int32)), .val (.int vd), .val (.int vk), .val (.long vq), .second] [(.int (lcmpW x1 vq))])) _
          refine XS.ifNo X0.here hx rfl (hb hby d12_16) rfl ((if0 _ _).trans (flt ((fun q => hc7 ((lw_gt _ _).mp q)) : ¬ ((0 : Int32) < (lcmpW x1 vq)))).2.2.1) ?_
          show Steps p.tables e below (s₁.setTop (mkF m 19 #[.val (.ref va), .val (.int (1 : Int32)), .val (.int vd), .val (.int vk), .val (.long vq), .second] [])) _
          refine XS.iconst X0.here hx rfl (hb hby d12_19) ?_
          show Steps p.tables e below (s₁.setTop (mkF m 20 #[.val (.ref va), .val (.int (1 : Int32)), .val (.int vd), .val (.int vk), .val (.long vq), .second] [(.int (1 : Int32))])) _
          refine XS.goto X0.here hx rfl (pc0 := 20) (pc' := 24) rfl (hb hby d12_20) (by decide) (by decide) ?_
          show Steps p.tables e below (s₁.setTop (mkF m 24 #[.val (.ref va), .val (.int (1 : Int32)), .val (.int vd), .val (.int vk), .val (.long vq), .second] [(.int (1 : Int32))])) _
          exact retOut X0 hx (t := .int) (i := .ireturn) Bd.returns rfl (Or.inl ⟨rfl, Or.inl rfl, _, rfl⟩) (hb hby d12_24) hr
        ·
          show QIn1 Z va vd vk vq x0 x1 x2 x3 kb h0 n0 _ s₁.heap _
          rw [e0]
          have hv : (1 : Int32) = (own_in1 va vd vk vq x0 x1 x2 x3) := by rw [own_in1, if_neg hc2, if_pos hc4, if_neg hc7]
          exact ⟨(congrArg (fun z => some (Value.int z)) hv), N0, rfl⟩
    ·
      obtain ⟨fs, hr, hrun, hended, hW, hsame⟩ := X0.leave (v := some (.int (0 : Int32))) (fun h => by rw [Bd.returns] at h; cases h) (hlocks := BodyLoose.notSynchronized Bd)
      refine ⟨_, _, pre3 _ ?_, hrun, hended, _, _, rfl, ?_, ⟨_, rfl⟩, hW, hsame.mono (by decide) (by decide)⟩
      ·
        show Steps p.tables e below (s₁.setTop (mkF m 7 #[.val (.ref va), .val (.int (1 : Int32)), .val (.int vd), .val (.int vk), .val (.long vq), .second] [(.int vk), (.int (1 : Int32))])) _
        refine XS.icmpYes X0.here hx rfl (pc0 := 7) (pc' := 23) rfl (hb hby d12_7) rfl (flt (hc4 : ¬ ((1 : Int32) < vk))).2.1 (by decide) (by decide) ?_
        show Steps p.tables e below (s₁.setTop (mkF m 23 #[.val (.ref va), .val (.int (1 : Int32)), .val (.int vd), .val (.int vk), .val (.long vq), .second] [])) _
        refine XS.iconst X0.here hx rfl (hb hby d12_23) ?_
        show Steps p.tables e below (s₁.setTop (mkF m 24 #[.val (.ref va), .val (.int (1 : Int32)), .val (.int vd), .val (.int vk), .val (.long vq), .second] [(.int (0 : Int32))])) _
        exact retOut X0 hx (t := .int) (i := .ireturn) Bd.returns rfl (Or.inl ⟨rfl, Or.inl rfl, _, rfl⟩) (hb hby d12_24) hr
      ·
        show QIn1 Z va vd vk vq x0 x1 x2 x3 kb h0 n0 _ s₁.heap _
        rw [e0]
        have hv : (0 : Int32) = (own_in1 va vd vk vq x0 x1 x2 x3) := by rw [own_in1, if_neg hc2, if_neg hc4]
        exact ⟨(congrArg (fun z => some (Value.int z)) hv), N0, rfl⟩
theorem ef_rmIn2 (m : MethodId) (x0 : Addr) (x1 : Int32) (x2 : Int32) (x3 : Int32) (x4 : Int64) : entryFrame m #[(.ref x0), (.int x1), (.int x2), (.int x3), (.long x4)] 6 = mkF m 0 #[.val (.ref x0), .val (.int x1), .val (.int x2), .val (.int x3), .val (.long x4), .second] [] := by first | (simp [entryFrame, mkF, argsToLocals, Value.category]; done) | rfl
def own_in2 (va : Addr) (vd : Int32) (vk : Int32) (vq : Int64) (x0 : Int64) (x1 : Int64) (x2 : Int64) (x3 : Int64) : Int32 := (if (2 : Int32) < vd then (0 : Int32) else (if (2 : Int32) < vk then (if vq < x2 then (0 : Int32) else (1 : Int32)) else (0 : Int32)))
def QIn2 (Z : State) (va : Addr) (vd : Int32) (vk : Int32) (vq : Int64) (x0 : Int64) (x1 : Int64) (x2 : Int64) (x3 : Int64) (kb : ClassId) (h0 : Heap) (n0 : Nat) (v : Option Value) (h : Heap) (L : List Loc) : Prop := v = some (.int (own_in2 va vd vk vq x0 x1 x2 x3)) ∧ Fr n0 L ∧ h = h0
set_option maxRecDepth 65536 in
set_option maxHeartbeats 40000000 in
theorem rmIn2 (l : Launch) (Z : State) (a0 : Array Value) (hw : ∀ d ∈ tables_1, d.before a0 Z = true) (ws : List Jvm.Cond) (va : Addr) (vd : Int32) (vk : Int32) (vq : Int64) (x0 : Int64) (x1 : Int64) (x2 : Int64) (x3 : Int64) (kb : ClassId) (h0 : Heap) (n0 : Nat) (Z0 : n0 ≤ h0.size) (Va : Arv Z h0 va kb .long (4 : Int32) [(.long x0), (.long x1), (.long x2), (.long x3)] (.long (0 : Int64))) :
    MetFree l (⟨"com/example/causeline/causeline/core/FilingPastPinLaw", "in", "([JIIIJ)I"⟩ : MethodName) (head1 (Jvm.Cond.code (⟨"com/example/causeline/causeline/core/FilingPastPinLaw", "in", "([JIIIJ)I"⟩ : MethodName) method_3_code 6 (some .int) :: ws) ({ frames := 0, cells := 0, slots := 0, locals := 0 } : Room)) (fun a U => a = #[(.ref va), (.int (2 : Int32)), (.int vd), (.int vk), (.long vq)] ∧ Z.Warmed39 U.vm ∧ U.heap = h0) (fun _ _ _ _ _ => True) (fun _ U o U' => ∃ v L, o = .returned v ∧ QIn2 Z va vd vk vq x0 x1 x2 x3 kb h0 n0 v U'.heap L ∧ FrameEnd U o U' L ({ frames := 0, cells := 0, slots := 0, locals := 0 } : Room).cells ({ frames := 0, cells := 0, slots := 0, locals := 0 } : Room).slots) := by
  refine MetFree.of_bodySF (plainFor_of_name pn_23) hisR ?_
  intro p e s m args below meth c s₁ Bd hml0 hP hK
  obtain ⟨rfl, hZ, hh⟩ := hP
  have hx := Bd.exec
  have hby := Bd.bytes
  have hml : c.maxLocals = 6 := hml0
  have hown : s.vm.findClass "com/example/causeline/causeline/core/FilingPastPinLaw" = some m.cls := findClass_of_methodNamed Bd.named
  have hnm := (name_of_methodNamed Bd.named Bd.method).1
  have X0 : Stand p l e ({ frames := 0, cells := 0, slots := 0, locals := 0 } : Room) s m #[(.ref va), (.int (2 : Int32)), (.int vd), (.int vk), (.long vq)] below meth c s₁ [] 0 0 := Stand.of_body Bd
  have e0 : s₁.heap = h0 := by rw [← hh, Bd.state]; rfl
  have N0 := Fr.nil n0
  have pre0 : ∀ t, Steps p.tables e below (s₁.setTop (mkF m 0 #[.val (.ref va), .val (.int (2 : Int32)), .val (.int vd), .val (.int vk), .val (.long vq), .second] [])) t → Steps p.tables e below (s₁.setTop (entryFrame m #[(.ref va), (.int (2 : Int32)), (.int vd), (.int vk), (.long vq)] 6)) t := fun t k => castTop (ef_rmIn2 m va (2 : Int32) vd vk vq) k
  have pre1 : ∀ t, Steps p.tables e below (s₁.setTop (mkF m 2 #[.val (.ref va), .val (.int (2 : Int32)), .val (.int vd), .val (.int vk), .val (.long vq), .second] [(.int vd), (.int (2 : Int32))])) t → Steps p.tables e below (s₁.setTop (entryFrame m #[(.ref va), (.int (2 : Int32)), (.int vd), (.int vk), (.long vq)] 6)) t := by
    intro t kt
    refine pre0 t ?_
    show Steps p.tables e below (s₁.setTop (mkF m 0 #[.val (.ref va), .val (.int (2 : Int32)), .val (.int vd), .val (.int vk), .val (.long vq), .second] [])) _
    refine XS.iloadN X0.here hx rfl (hb hby d12_0) rfl ?_
    show Steps p.tables e below (s₁.setTop (mkF m 1 #[.val (.ref va), .val (.int (2 : Int32)), .val (.int vd), .val (.int vk), .val (.long vq), .second] [(.int (2 : Int32))])) _
    refine XS.iloadN X0.here hx rfl (hb hby d12_1) rfl ?_
    exact kt
  by_cases hc2 : (2 : Int32) < vd
  ·
    obtain ⟨fs, hr, hrun, hended, hW, hsame⟩ := X0.leave (v := some (.int (0 : Int32))) (fun h => by rw [Bd.returns] at h; cases h) (hlocks := BodyLoose.notSynchronized Bd)
    refine ⟨_, _, pre1 _ ?_, hrun, hended, _, _, rfl, ?_, ⟨_, rfl⟩, hW, hsame.mono (by decide) (by decide)⟩
    ·
      show Steps p.tables e below (s₁.setTop (mkF m 2 #[.val (.ref va), .val (.int (2 : Int32)), .val (.int vd), .val (.int vk), .val (.long vq), .second] [(.int vd), (.int (2 : Int32))])) _
      refine XS.icmpYes X0.here hx rfl (pc0 := 2) (pc' := 23) rfl (hb hby d12_2) rfl (tlt (hc2 : (2 : Int32) < vd)).1 (by decide) (by decide) ?_
      show Steps p.tables e below (s₁.setTop (mkF m 23 #[.val (.ref va), .val (.int (2 : Int32)), .val (.int vd), .val (.int vk), .val (.long vq), .second] [])) _
      refine XS.iconst X0.here hx rfl (hb hby d12_23) ?_
      show Steps p.tables e below (s₁.setTop (mkF m 24 #[.val (.ref va), .val (.int (2 : Int32)), .val (.int vd), .val (.int vk), .val (.long vq), .second] [(.int (0 : Int32))])) _
      exact retOut X0 hx (t := .int) (i := .ireturn) Bd.returns rfl (Or.inl ⟨rfl, Or.inl rfl, _, rfl⟩) (hb hby d12_24) hr
    ·
      show QIn2 Z va vd vk vq x0 x1 x2 x3 kb h0 n0 _ s₁.heap _
      rw [e0]
      have hv : (0 : Int32) = (own_in2 va vd vk vq x0 x1 x2 x3) := by rw [own_in2, if_pos hc2]
      exact ⟨(congrArg (fun z => some (Value.int z)) hv), N0, rfl⟩
  ·
    have pre3 : ∀ t, Steps p.tables e below (s₁.setTop (mkF m 7 #[.val (.ref va), .val (.int (2 : Int32)), .val (.int vd), .val (.int vk), .val (.long vq), .second] [(.int vk), (.int (2 : Int32))])) t → Steps p.tables e below (s₁.setTop (entryFrame m #[(.ref va), (.int (2 : Int32)), (.int vd), (.int vk), (.long vq)] 6)) t := by
      intro t kt
      refine pre1 t ?_
      show Steps p.tables e below (s₁.setTop (mkF m 2 #[.val (.ref va), .val (.int (2 : Int32)), .val (.int vd), .val (.int vk), .val (.long vq), .second] [(.int vd), (.int (2 : Int32))])) _
      refine XS.icmpNo X0.here hx rfl (hb hby d12_2) rfl (flt (hc2 : ¬ ((2 : Int32) < vd))).1 ?_
      show Steps p.tables e below (s₁.setTop (mkF m 5 #[.val (.ref va), .val (.int (2 : Int32)), .val (.int vd), .val (.int vk), .val (.long vq), .second] [])) _
      refine XS.iloadN X0.here hx rfl (hb hby d12_5) rfl ?_
      show Steps p.tables e below (s₁.setTop (mkF m 6 #[.val (.ref va), .val (.int (2 : Int32)), .val (.int vd), .val (.int vk), .val (.long vq), .second] [(.int (2 : Int32))])) _
      refine XS.iloadN X0.here hx rfl (hb hby d12_6) rfl ?_
      exact kt
    by_cases hc4 : (2 : Int32) < vk
    ·
      obtain ⟨cl5, Ar5, q5, S5, NN5, HH5, GG5⟩ := id Va
      have hin5 : ¬ ((2 : Int32) < 0 ∨ cl5.slots.size ≤ ((2 : Int32)).toNatClampNeg) := inb_of S5 ⟨by decide, by decide⟩
      have hat5 : cl5.slots[((2 : Int32)).toNatClampNeg]? = some (.long x2) := HH5.at hin5 rfl
      have pre6 : ∀ t, Steps p.tables e below (s₁.setTop (mkF m 16 #[.val (.ref va), .val (.int (2 : Int32)), .val (.int vd), .val (.int vk), .val (.long vq), .second] [(.int (lcmpW x2 vq))])) t → Steps p.tables e below (s₁.setTop (entryFrame m #[(.ref va), (.int (2 : Int32)), (.int vd), (.int vk), (.long vq)] 6)) t := by
        intro t kt
        refine pre3 t ?_
        show Steps p.tables e below (s₁.setTop (mkF m 7 #[.val (.ref va), .val (.int (2 : Int32)), .val (.int vd), .val (.int vk), .val (.long vq), .second] [(.int vk), (.int (2 : Int32))])) _
        refine XS.icmpNo X0.here hx rfl (hb hby d12_7) rfl (tlt (hc4 : (2 : Int32) < vk)).2.1 ?_
        show Steps p.tables e below (s₁.setTop (mkF m 10 #[.val (.ref va), .val (.int (2 : Int32)), .val (.int vd), .val (.int vk), .val (.long vq), .second] [])) _
        refine XS.aloadN X0.here hx rfl (hb hby d12_10) rfl rfl ?_
        show Steps p.tables e below (s₁.setTop (mkF m 11 #[.val (.ref va), .val (.int (2 : Int32)), .val (.int vd), .val (.int vk), .val (.long vq), .second] [(.ref va)])) _
        refine XS.iloadN X0.here hx rfl (hb hby d12_11) rfl ?_
        show Steps p.tables e below (s₁.setTop (mkF m 12 #[.val (.ref va), .val (.int (2 : Int32)), .val (.int vd), .val (.int vk), .val (.long vq), .second] [(.int (2 : Int32)), (.ref va)])) _
        refine X0.laload hx (j := (2 : Int32)) (v := (.long x2)) (by rw [e0]; exact Ar5.1) (State.isArrayOf_alike hZ.alike Ar5.2.1) Ar5.2.2 hin5 hat5 (g := (mkF m 12 #[.val (.ref va), .val (.int (2 : Int32)), .val (.int vd), .val (.int vk), .val (.long vq), .second] [(.int (2 : Int32)), (.ref va)])) rfl rfl (hb hby d12_12) _ ?_
        show Steps p.tables e below (s₁.setTop (mkF m 13 #[.val (.ref va), .val (.int (2 : Int32)), .val (.int vd), .val (.int vk), .val (.long vq), .second] [(.long x2)])) _
        refine XS.lload X0.here hx rfl (hb hby d12_13) rfl ?_
        show Steps p.tables e below (s₁.setTop (mkF m 15 #[.val (.ref va), .val (.int (2 : Int32)), .val (.int vd), .val (.int vk), .val (.long vq), .second] [(.long vq), (.long x2)])) _
        refine XS.lcmp X0.here hx rfl (hb hby d12_15) rfl ?_
        exact kt
      by_cases hc7 : vq < x2
      ·
        obtain ⟨fs, hr, hrun, hended, hW, hsame⟩ := X0.leave (v := some (.int (0 : Int32))) (fun h => by rw [Bd.returns] at h; cases h) (hlocks := BodyLoose.notSynchronized Bd)
        refine ⟨_, _, pre6 _ ?_, hrun, hended, _, _, rfl, ?_, ⟨_, rfl⟩, hW, hsame.mono (by decide) (by decide)⟩
        ·
          show Steps p.tables e below (s₁.setTop (mkF m 16 #[.val (.ref va), .val (.int (2 : Int32)), .val (.int vd), .val (.int vk), .val (.long vq), .second] [(.int (lcmpW x2 vq))])) _
          refine XS.ifYes X0.here hx rfl (pc0 := 16) (pc' := 23) rfl (hb hby d12_16) rfl ((if0 _ _).trans (tlt (((lw_gt _ _).mpr hc7) : (0 : Int32) < (lcmpW x2 vq))).2.2.1) (by decide) (by decide) ?_
          show Steps p.tables e below (s₁.setTop (mkF m 23 #[.val (.ref va), .val (.int (2 : Int32)), .val (.int vd), .val (.int vk), .val (.long vq), .second] [])) _
          refine XS.iconst X0.here hx rfl (hb hby d12_23) ?_
          show Steps p.tables e below (s₁.setTop (mkF m 24 #[.val (.ref va), .val (.int (2 : Int32)), .val (.int vd), .val (.int vk), .val (.long vq), .second] [(.int (0 : Int32))])) _
          exact retOut X0 hx (t := .int) (i := .ireturn) Bd.returns rfl (Or.inl ⟨rfl, Or.inl rfl, _, rfl⟩) (hb hby d12_24) hr
        ·
          show QIn2 Z va vd vk vq x0 x1 x2 x3 kb h0 n0 _ s₁.heap _
          rw [e0]
          have hv : (0 : Int32) = (own_in2 va vd vk vq x0 x1 x2 x3) := by rw [own_in2, if_neg hc2, if_pos hc4, if_pos hc7]
          exact ⟨(congrArg (fun z => some (Value.int z)) hv), N0, rfl⟩
      ·
        obtain ⟨fs, hr, hrun, hended, hW, hsame⟩ := X0.leave (v := some (.int (1 : Int32))) (fun h => by rw [Bd.returns] at h; cases h) (hlocks := BodyLoose.notSynchronized Bd)
        refine ⟨_, _, pre6 _ ?_, hrun, hended, _, _, rfl, ?_, ⟨_, rfl⟩, hW, hsame.mono (by decide) (by decide)⟩
        ·
          show Steps p.tables e below (s₁.setTop (mkF m 16 #[.val (.ref va), .val (.int (2 : Int32)), .val (.int vd), .val (.int vk), .val (.long vq), .second] [(.int (lcmpW x2 vq))])) _
          refine XS.ifNo X0.here hx rfl (hb hby d12_16) rfl ((if0 _ _).trans (flt ((fun q => hc7 ((lw_gt _ _).mp q)) : ¬ ((0 : Int32) < (lcmpW x2 vq)))).2.2.1) ?_
          show Steps p.tables e below (s₁.setTop (mkF m 19 #[.val (.ref va), .val (.int (2 : Int32)), .val (.int vd), .val (.int vk), .val (.long vq), .second] [])) _
          refine XS.iconst X0.here hx rfl (hb hby d12_19) ?_
          show Steps p.tables e below (s₁.setTop (mkF m 20 #[.val (.ref va), .val (.int (2 : Int32)), .val (.int vd), .val (.int vk), .val (.long vq), .second] [(.int (1 : Int32))])) _
          refine XS.goto X0.here hx rfl (pc0 := 20) (pc' := 24) rfl (hb hby d12_20) (by decide) (by decide) ?_
          show Steps p.tables e below (s₁.setTop (mkF m 24 #[.val (.ref va), .val (.int (2 : Int32)), .val (.int vd), .val (.int vk), .val (.long vq), .second] [(.int (1 : Int32))])) _
          exact retOut X0 hx (t := .int) (i := .ireturn) Bd.returns rfl (Or.inl ⟨rfl, Or.inl rfl, _, rfl⟩) (hb hby d12_24) hr
        ·
          show QIn2 Z va vd vk vq x0 x1 x2 x3 kb h0 n0 _ s₁.heap _
          rw [e0]
          have hv : (1 : Int32) = (own_in2 va vd vk vq x0 x1 x2 x3) := by rw [own_in2, if_neg hc2, if_pos hc4, if_neg hc7]
          exact ⟨(congrArg (fun z => some (Value.int z)) hv), N0, rfl⟩
    ·
      obtain ⟨fs, hr, hrun, hended, hW, hsame⟩ := X0.leave (v := some (.int (0 : Int32))) (fun h => by rw [Bd.returns] at h; cases h) (hlocks := BodyLoose.notSynchronized Bd)
      refine ⟨_, _, pre3 _ ?_, hrun, hended, _, _, rfl, ?_, ⟨_, rfl⟩, hW, hsame.mono (by decide) (by decide)⟩
      ·
        show Steps p.tables e below (s₁.setTop (mkF m 7 #[.val (.ref va), .val (.int (2 : Int32)), .val (.int vd), .val (.int vk), .val (.long vq), .second] [(.int vk), (.int (2 : Int32))])) _
        refine XS.icmpYes X0.here hx rfl (pc0 := 7) (pc' := 23) rfl (hb hby d12_7) rfl (flt (hc4 : ¬ ((2 : Int32) < vk))).2.1 (by decide) (by decide) ?_
        show Steps p.tables e below (s₁.setTop (mkF m 23 #[.val (.ref va), .val (.int (2 : Int32)), .val (.int vd), .val (.int vk), .val (.long vq), .second] [])) _
        refine XS.iconst X0.here hx rfl (hb hby d12_23) ?_
        show Steps p.tables e below (s₁.setTop (mkF m 24 #[.val (.ref va), .val (.int (2 : Int32)), .val (.int vd), .val (.int vk), .val (.long vq), .second] [(.int (0 : Int32))])) _
        exact retOut X0 hx (t := .int) (i := .ireturn) Bd.returns rfl (Or.inl ⟨rfl, Or.inl rfl, _, rfl⟩) (hb hby d12_24) hr
      ·
        show QIn2 Z va vd vk vq x0 x1 x2 x3 kb h0 n0 _ s₁.heap _
        rw [e0]
        have hv : (0 : Int32) = (own_in2 va vd vk vq x0 x1 x2 x3) := by rw [own_in2, if_neg hc2, if_neg hc4]
        exact ⟨(congrArg (fun z => some (Value.int z)) hv), N0, rfl⟩
theorem ef_rmIn3 (m : MethodId) (x0 : Addr) (x1 : Int32) (x2 : Int32) (x3 : Int32) (x4 : Int64) : entryFrame m #[(.ref x0), (.int x1), (.int x2), (.int x3), (.long x4)] 6 = mkF m 0 #[.val (.ref x0), .val (.int x1), .val (.int x2), .val (.int x3), .val (.long x4), .second] [] := by first | (simp [entryFrame, mkF, argsToLocals, Value.category]; done) | rfl
def own_in3 (va : Addr) (vd : Int32) (vk : Int32) (vq : Int64) (x0 : Int64) (x1 : Int64) (x2 : Int64) (x3 : Int64) : Int32 := (if (3 : Int32) < vd then (0 : Int32) else (if (3 : Int32) < vk then (if vq < x3 then (0 : Int32) else (1 : Int32)) else (0 : Int32)))
def QIn3 (Z : State) (va : Addr) (vd : Int32) (vk : Int32) (vq : Int64) (x0 : Int64) (x1 : Int64) (x2 : Int64) (x3 : Int64) (kb : ClassId) (h0 : Heap) (n0 : Nat) (v : Option Value) (h : Heap) (L : List Loc) : Prop := v = some (.int (own_in3 va vd vk vq x0 x1 x2 x3)) ∧ Fr n0 L ∧ h = h0
set_option maxRecDepth 65536 in
set_option maxHeartbeats 40000000 in
theorem rmIn3 (l : Launch) (Z : State) (a0 : Array Value) (hw : ∀ d ∈ tables_1, d.before a0 Z = true) (ws : List Jvm.Cond) (va : Addr) (vd : Int32) (vk : Int32) (vq : Int64) (x0 : Int64) (x1 : Int64) (x2 : Int64) (x3 : Int64) (kb : ClassId) (h0 : Heap) (n0 : Nat) (Z0 : n0 ≤ h0.size) (Va : Arv Z h0 va kb .long (4 : Int32) [(.long x0), (.long x1), (.long x2), (.long x3)] (.long (0 : Int64))) :
    MetFree l (⟨"com/example/causeline/causeline/core/FilingPastPinLaw", "in", "([JIIIJ)I"⟩ : MethodName) (head1 (Jvm.Cond.code (⟨"com/example/causeline/causeline/core/FilingPastPinLaw", "in", "([JIIIJ)I"⟩ : MethodName) method_3_code 6 (some .int) :: ws) ({ frames := 0, cells := 0, slots := 0, locals := 0 } : Room)) (fun a U => a = #[(.ref va), (.int (3 : Int32)), (.int vd), (.int vk), (.long vq)] ∧ Z.Warmed39 U.vm ∧ U.heap = h0) (fun _ _ _ _ _ => True) (fun _ U o U' => ∃ v L, o = .returned v ∧ QIn3 Z va vd vk vq x0 x1 x2 x3 kb h0 n0 v U'.heap L ∧ FrameEnd U o U' L ({ frames := 0, cells := 0, slots := 0, locals := 0 } : Room).cells ({ frames := 0, cells := 0, slots := 0, locals := 0 } : Room).slots) := by
  refine MetFree.of_bodySF (plainFor_of_name pn_23) hisR ?_
  intro p e s m args below meth c s₁ Bd hml0 hP hK
  obtain ⟨rfl, hZ, hh⟩ := hP
  have hx := Bd.exec
  have hby := Bd.bytes
  have hml : c.maxLocals = 6 := hml0
  have hown : s.vm.findClass "com/example/causeline/causeline/core/FilingPastPinLaw" = some m.cls := findClass_of_methodNamed Bd.named
  have hnm := (name_of_methodNamed Bd.named Bd.method).1
  have X0 : Stand p l e ({ frames := 0, cells := 0, slots := 0, locals := 0 } : Room) s m #[(.ref va), (.int (3 : Int32)), (.int vd), (.int vk), (.long vq)] below meth c s₁ [] 0 0 := Stand.of_body Bd
  have e0 : s₁.heap = h0 := by rw [← hh, Bd.state]; rfl
  have N0 := Fr.nil n0
  have pre0 : ∀ t, Steps p.tables e below (s₁.setTop (mkF m 0 #[.val (.ref va), .val (.int (3 : Int32)), .val (.int vd), .val (.int vk), .val (.long vq), .second] [])) t → Steps p.tables e below (s₁.setTop (entryFrame m #[(.ref va), (.int (3 : Int32)), (.int vd), (.int vk), (.long vq)] 6)) t := fun t k => castTop (ef_rmIn3 m va (3 : Int32) vd vk vq) k
  have pre1 : ∀ t, Steps p.tables e below (s₁.setTop (mkF m 2 #[.val (.ref va), .val (.int (3 : Int32)), .val (.int vd), .val (.int vk), .val (.long vq), .second] [(.int vd), (.int (3 : Int32))])) t → Steps p.tables e below (s₁.setTop (entryFrame m #[(.ref va), (.int (3 : Int32)), (.int vd), (.int vk), (.long vq)] 6)) t := by
    intro t kt
    refine pre0 t ?_
    show Steps p.tables e below (s₁.setTop (mkF m 0 #[.val (.ref va), .val (.int (3 : Int32)), .val (.int vd), .val (.int vk), .val (.long vq), .second] [])) _
    refine XS.iloadN X0.here hx rfl (hb hby d12_0) rfl ?_
    show Steps p.tables e below (s₁.setTop (mkF m 1 #[.val (.ref va), .val (.int (3 : Int32)), .val (.int vd), .val (.int vk), .val (.long vq), .second] [(.int (3 : Int32))])) _
    refine XS.iloadN X0.here hx rfl (hb hby d12_1) rfl ?_
    exact kt
  by_cases hc2 : (3 : Int32) < vd
  ·
    obtain ⟨fs, hr, hrun, hended, hW, hsame⟩ := X0.leave (v := some (.int (0 : Int32))) (fun h => by rw [Bd.returns] at h; cases h) (hlocks := BodyLoose.notSynchronized Bd)
    refine ⟨_, _, pre1 _ ?_, hrun, hended, _, _, rfl, ?_, ⟨_, rfl⟩, hW, hsame.mono (by decide) (by decide)⟩
    ·
      show Steps p.tables e below (s₁.setTop (mkF m 2 #[.val (.ref va), .val (.int (3 : Int32)), .val (.int vd), .val (.int vk), .val (.long vq), .second] [(.int vd), (.int (3 : Int32))])) _
      refine XS.icmpYes X0.here hx rfl (pc0 := 2) (pc' := 23) rfl (hb hby d12_2) rfl (tlt (hc2 : (3 : Int32) < vd)).1 (by decide) (by decide) ?_
      show Steps p.tables e below (s₁.setTop (mkF m 23 #[.val (.ref va), .val (.int (3 : Int32)), .val (.int vd), .val (.int vk), .val (.long vq), .second] [])) _
      refine XS.iconst X0.here hx rfl (hb hby d12_23) ?_
      show Steps p.tables e below (s₁.setTop (mkF m 24 #[.val (.ref va), .val (.int (3 : Int32)), .val (.int vd), .val (.int vk), .val (.long vq), .second] [(.int (0 : Int32))])) _
      exact retOut X0 hx (t := .int) (i := .ireturn) Bd.returns rfl (Or.inl ⟨rfl, Or.inl rfl, _, rfl⟩) (hb hby d12_24) hr
    ·
      show QIn3 Z va vd vk vq x0 x1 x2 x3 kb h0 n0 _ s₁.heap _
      rw [e0]
      have hv : (0 : Int32) = (own_in3 va vd vk vq x0 x1 x2 x3) := by rw [own_in3, if_pos hc2]
      exact ⟨(congrArg (fun z => some (Value.int z)) hv), N0, rfl⟩
  ·
    have pre3 : ∀ t, Steps p.tables e below (s₁.setTop (mkF m 7 #[.val (.ref va), .val (.int (3 : Int32)), .val (.int vd), .val (.int vk), .val (.long vq), .second] [(.int vk), (.int (3 : Int32))])) t → Steps p.tables e below (s₁.setTop (entryFrame m #[(.ref va), (.int (3 : Int32)), (.int vd), (.int vk), (.long vq)] 6)) t := by
      intro t kt
      refine pre1 t ?_
      show Steps p.tables e below (s₁.setTop (mkF m 2 #[.val (.ref va), .val (.int (3 : Int32)), .val (.int vd), .val (.int vk), .val (.long vq), .second] [(.int vd), (.int (3 : Int32))])) _
      refine XS.icmpNo X0.here hx rfl (hb hby d12_2) rfl (flt (hc2 : ¬ ((3 : Int32) < vd))).1 ?_
      show Steps p.tables e below (s₁.setTop (mkF m 5 #[.val (.ref va), .val (.int (3 : Int32)), .val (.int vd), .val (.int vk), .val (.long vq), .second] [])) _
      refine XS.iloadN X0.here hx rfl (hb hby d12_5) rfl ?_
      show Steps p.tables e below (s₁.setTop (mkF m 6 #[.val (.ref va), .val (.int (3 : Int32)), .val (.int vd), .val (.int vk), .val (.long vq), .second] [(.int (3 : Int32))])) _
      refine XS.iloadN X0.here hx rfl (hb hby d12_6) rfl ?_
      exact kt
    by_cases hc4 : (3 : Int32) < vk
    ·
      obtain ⟨cl5, Ar5, q5, S5, NN5, HH5, GG5⟩ := id Va
      have hin5 : ¬ ((3 : Int32) < 0 ∨ cl5.slots.size ≤ ((3 : Int32)).toNatClampNeg) := inb_of S5 ⟨by decide, by decide⟩
      have hat5 : cl5.slots[((3 : Int32)).toNatClampNeg]? = some (.long x3) := HH5.at hin5 rfl
      have pre6 : ∀ t, Steps p.tables e below (s₁.setTop (mkF m 16 #[.val (.ref va), .val (.int (3 : Int32)), .val (.int vd), .val (.int vk), .val (.long vq), .second] [(.int (lcmpW x3 vq))])) t → Steps p.tables e below (s₁.setTop (entryFrame m #[(.ref va), (.int (3 : Int32)), (.int vd), (.int vk), (.long vq)] 6)) t := by
        intro t kt
        refine pre3 t ?_
        show Steps p.tables e below (s₁.setTop (mkF m 7 #[.val (.ref va), .val (.int (3 : Int32)), .val (.int vd), .val (.int vk), .val (.long vq), .second] [(.int vk), (.int (3 : Int32))])) _
        refine XS.icmpNo X0.here hx rfl (hb hby d12_7) rfl (tlt (hc4 : (3 : Int32) < vk)).2.1 ?_
        show Steps p.tables e below (s₁.setTop (mkF m 10 #[.val (.ref va), .val (.int (3 : Int32)), .val (.int vd), .val (.int vk), .val (.long vq), .second] [])) _
        refine XS.aloadN X0.here hx rfl (hb hby d12_10) rfl rfl ?_
        show Steps p.tables e below (s₁.setTop (mkF m 11 #[.val (.ref va), .val (.int (3 : Int32)), .val (.int vd), .val (.int vk), .val (.long vq), .second] [(.ref va)])) _
        refine XS.iloadN X0.here hx rfl (hb hby d12_11) rfl ?_
        show Steps p.tables e below (s₁.setTop (mkF m 12 #[.val (.ref va), .val (.int (3 : Int32)), .val (.int vd), .val (.int vk), .val (.long vq), .second] [(.int (3 : Int32)), (.ref va)])) _
        refine X0.laload hx (j := (3 : Int32)) (v := (.long x3)) (by rw [e0]; exact Ar5.1) (State.isArrayOf_alike hZ.alike Ar5.2.1) Ar5.2.2 hin5 hat5 (g := (mkF m 12 #[.val (.ref va), .val (.int (3 : Int32)), .val (.int vd), .val (.int vk), .val (.long vq), .second] [(.int (3 : Int32)), (.ref va)])) rfl rfl (hb hby d12_12) _ ?_
        show Steps p.tables e below (s₁.setTop (mkF m 13 #[.val (.ref va), .val (.int (3 : Int32)), .val (.int vd), .val (.int vk), .val (.long vq), .second] [(.long x3)])) _
        refine XS.lload X0.here hx rfl (hb hby d12_13) rfl ?_
        show Steps p.tables e below (s₁.setTop (mkF m 15 #[.val (.ref va), .val (.int (3 : Int32)), .val (.int vd), .val (.int vk), .val (.long vq), .second] [(.long vq), (.long x3)])) _
        refine XS.lcmp X0.here hx rfl (hb hby d12_15) rfl ?_
        exact kt
      by_cases hc7 : vq < x3
      ·
        obtain ⟨fs, hr, hrun, hended, hW, hsame⟩ := X0.leave (v := some (.int (0 : Int32))) (fun h => by rw [Bd.returns] at h; cases h) (hlocks := BodyLoose.notSynchronized Bd)
        refine ⟨_, _, pre6 _ ?_, hrun, hended, _, _, rfl, ?_, ⟨_, rfl⟩, hW, hsame.mono (by decide) (by decide)⟩
        ·
          show Steps p.tables e below (s₁.setTop (mkF m 16 #[.val (.ref va), .val (.int (3 : Int32)), .val (.int vd), .val (.int vk), .val (.long vq), .second] [(.int (lcmpW x3 vq))])) _
          refine XS.ifYes X0.here hx rfl (pc0 := 16) (pc' := 23) rfl (hb hby d12_16) rfl ((if0 _ _).trans (tlt (((lw_gt _ _).mpr hc7) : (0 : Int32) < (lcmpW x3 vq))).2.2.1) (by decide) (by decide) ?_
          show Steps p.tables e below (s₁.setTop (mkF m 23 #[.val (.ref va), .val (.int (3 : Int32)), .val (.int vd), .val (.int vk), .val (.long vq), .second] [])) _
          refine XS.iconst X0.here hx rfl (hb hby d12_23) ?_
          show Steps p.tables e below (s₁.setTop (mkF m 24 #[.val (.ref va), .val (.int (3 : Int32)), .val (.int vd), .val (.int vk), .val (.long vq), .second] [(.int (0 : Int32))])) _
          exact retOut X0 hx (t := .int) (i := .ireturn) Bd.returns rfl (Or.inl ⟨rfl, Or.inl rfl, _, rfl⟩) (hb hby d12_24) hr
        ·
          show QIn3 Z va vd vk vq x0 x1 x2 x3 kb h0 n0 _ s₁.heap _
          rw [e0]
          have hv : (0 : Int32) = (own_in3 va vd vk vq x0 x1 x2 x3) := by rw [own_in3, if_neg hc2, if_pos hc4, if_pos hc7]
          exact ⟨(congrArg (fun z => some (Value.int z)) hv), N0, rfl⟩
      ·
        obtain ⟨fs, hr, hrun, hended, hW, hsame⟩ := X0.leave (v := some (.int (1 : Int32))) (fun h => by rw [Bd.returns] at h; cases h) (hlocks := BodyLoose.notSynchronized Bd)
        refine ⟨_, _, pre6 _ ?_, hrun, hended, _, _, rfl, ?_, ⟨_, rfl⟩, hW, hsame.mono (by decide) (by decide)⟩
        ·
          show Steps p.tables e below (s₁.setTop (mkF m 16 #[.val (.ref va), .val (.int (3 : Int32)), .val (.int vd), .val (.int vk), .val (.long vq), .second] [(.int (lcmpW x3 vq))])) _
          refine XS.ifNo X0.here hx rfl (hb hby d12_16) rfl ((if0 _ _).trans (flt ((fun q => hc7 ((lw_gt _ _).mp q)) : ¬ ((0 : Int32) < (lcmpW x3 vq)))).2.2.1) ?_
          show Steps p.tables e below (s₁.setTop (mkF m 19 #[.val (.ref va), .val (.int (3 : Int32)), .val (.int vd), .val (.int vk), .val (.long vq), .second] [])) _
          refine XS.iconst X0.here hx rfl (hb hby d12_19) ?_
          show Steps p.tables e below (s₁.setTop (mkF m 20 #[.val (.ref va), .val (.int (3 : Int32)), .val (.int vd), .val (.int vk), .val (.long vq), .second] [(.int (1 : Int32))])) _
          refine XS.goto X0.here hx rfl (pc0 := 20) (pc' := 24) rfl (hb hby d12_20) (by decide) (by decide) ?_
          show Steps p.tables e below (s₁.setTop (mkF m 24 #[.val (.ref va), .val (.int (3 : Int32)), .val (.int vd), .val (.int vk), .val (.long vq), .second] [(.int (1 : Int32))])) _
          exact retOut X0 hx (t := .int) (i := .ireturn) Bd.returns rfl (Or.inl ⟨rfl, Or.inl rfl, _, rfl⟩) (hb hby d12_24) hr
        ·
          show QIn3 Z va vd vk vq x0 x1 x2 x3 kb h0 n0 _ s₁.heap _
          rw [e0]
          have hv : (1 : Int32) = (own_in3 va vd vk vq x0 x1 x2 x3) := by rw [own_in3, if_neg hc2, if_pos hc4, if_neg hc7]
          exact ⟨(congrArg (fun z => some (Value.int z)) hv), N0, rfl⟩
    ·
      obtain ⟨fs, hr, hrun, hended, hW, hsame⟩ := X0.leave (v := some (.int (0 : Int32))) (fun h => by rw [Bd.returns] at h; cases h) (hlocks := BodyLoose.notSynchronized Bd)
      refine ⟨_, _, pre3 _ ?_, hrun, hended, _, _, rfl, ?_, ⟨_, rfl⟩, hW, hsame.mono (by decide) (by decide)⟩
      ·
        show Steps p.tables e below (s₁.setTop (mkF m 7 #[.val (.ref va), .val (.int (3 : Int32)), .val (.int vd), .val (.int vk), .val (.long vq), .second] [(.int vk), (.int (3 : Int32))])) _
        refine XS.icmpYes X0.here hx rfl (pc0 := 7) (pc' := 23) rfl (hb hby d12_7) rfl (flt (hc4 : ¬ ((3 : Int32) < vk))).2.1 (by decide) (by decide) ?_
        show Steps p.tables e below (s₁.setTop (mkF m 23 #[.val (.ref va), .val (.int (3 : Int32)), .val (.int vd), .val (.int vk), .val (.long vq), .second] [])) _
        refine XS.iconst X0.here hx rfl (hb hby d12_23) ?_
        show Steps p.tables e below (s₁.setTop (mkF m 24 #[.val (.ref va), .val (.int (3 : Int32)), .val (.int vd), .val (.int vk), .val (.long vq), .second] [(.int (0 : Int32))])) _
        exact retOut X0 hx (t := .int) (i := .ireturn) Bd.returns rfl (Or.inl ⟨rfl, Or.inl rfl, _, rfl⟩) (hb hby d12_24) hr
      ·
        show QIn3 Z va vd vk vq x0 x1 x2 x3 kb h0 n0 _ s₁.heap _
        rw [e0]
        have hv : (0 : Int32) = (own_in3 va vd vk vq x0 x1 x2 x3) := by rw [own_in3, if_neg hc2, if_neg hc4]
        exact ⟨(congrArg (fun z => some (Value.int z)) hv), N0, rfl⟩
def own_g (ys : List Int64) (q : Int64) (i : Nat) : Bool := !decide (q < ys.getD i 0)
def own_bs (g : Nat → Bool) : Nat → Nat → Nat → Nat
  | 0, lo, _ => lo
  | k + 1, lo, hi => if lo < hi then (if g ((lo + hi) / 2) then own_bs g k ((lo + hi) / 2 + 1) hi else own_bs g k lo ((lo + hi) / 2)) else lo
theorem own_bs_done (g : Nat → Bool) : ∀ (k lo hi : Nat), ¬ lo < hi → own_bs g k lo hi = lo
  | 0, _, _, _ => rfl
  | k + 1, lo, hi, h => by rw [own_bs, if_neg h]
theorem own_nat32 {i : Nat} (h : i < 2 ^ 31) : (Int32.ofNat i).toNatClampNeg = i := by
  show (Int32.ofNat i).toInt.toNat = i
  rw [Int32.toInt_ofNat_small h]; rfl
theorem own_lt32 {i j : Nat} (hi : i < 2 ^ 31) (hj : j < 2 ^ 31) : (Int32.ofNat i) < (Int32.ofNat j) ↔ i < j := by
  rw [Int32.lt_iff_toInt_lt, Int32.toInt_ofNat_small hi, Int32.toInt_ofNat_small hj]; omega
theorem own_mid : ∀ lo hi : Fin 8, ((Int32.ofNat lo.val + Int32.ofNat hi.val).toUInt32 >>> ((1 : Int32) &&& 31).toUInt32).toInt32 = Int32.ofNat ((lo.val + hi.val) / 2) := by decide +kernel
theorem own_mid' {lo hi : Nat} (h1 : lo < 8) (h2 : hi < 8) : ((Int32.ofNat lo + Int32.ofNat hi).toUInt32 >>> ((1 : Int32) &&& 31).toUInt32).toInt32 = Int32.ofNat ((lo + hi) / 2) := own_mid ⟨lo, h1⟩ ⟨hi, h2⟩
theorem own_getDL (ys : List Int64) (i : Nat) : (ys.map Value.long).getD i (.long (0 : Int64)) = .long (ys.getD i 0) := by
  simp only [List.getD_eq_getElem?_getD, List.getElem?_map]
  cases ys[i]? <;> rfl
theorem own_one {i : Nat} : (Int32.ofNat i) + (1 : Int32) = Int32.ofNat (i + 1) := by rw [Int32.ofNat_add]; rfl
theorem own_os5 {z0 z1 z3 z4 : Value} {s5 : Slot} {v : Int32} (h : One s5) : storeLocals #[.val z0, .val z1, .second, .val z3, .val z4, s5] 5 (.int v) = some #[.val z0, .val z1, .second, .val z3, .val z4, .val (.int v)] := by
  rcases h with rfl | ⟨w, rfl, hw⟩
  · rfl
  · cases w <;> first | rfl | (simp [Value.category] at hw)
theorem d11_11 : decode prog_36_method_11_code 11 = .ok (.iload_n 3, 1) := by decide +kernel
theorem d11_12 : decode prog_36_method_11_code 12 = .ok (.iload 4, 2) := by decide +kernel
theorem d11_14 : decode prog_36_method_11_code 14 = .ok (.if_icmp .ge 38, 3) := by decide +kernel
theorem d11_17 : decode prog_36_method_11_code 17 = .ok (.iload_n 3, 1) := by decide +kernel
theorem d11_18 : decode prog_36_method_11_code 18 = .ok (.iload 4, 2) := by decide +kernel
theorem d11_20 : decode prog_36_method_11_code 20 = .ok (.iadd, 1) := by decide +kernel
theorem d11_21 : decode prog_36_method_11_code 21 = .ok (.iconst 1, 1) := by decide +kernel
theorem d11_22 : decode prog_36_method_11_code 22 = .ok (.iushr, 1) := by decide +kernel
theorem d11_23 : decode prog_36_method_11_code 23 = .ok (.istore 5, 2) := by decide +kernel
theorem d11_25 : decode prog_36_method_11_code 25 = .ok (.aload_n 0, 1) := by decide +kernel
theorem d11_26 : decode prog_36_method_11_code 26 = .ok (.getfield 13, 3) := by decide +kernel
theorem d11_29 : decode prog_36_method_11_code 29 = .ok (.iload 5, 2) := by decide +kernel
theorem d11_31 : decode prog_36_method_11_code 31 = .ok (.laload, 1) := by decide +kernel
theorem d11_32 : decode prog_36_method_11_code 32 = .ok (.lload_n 1, 1) := by decide +kernel
theorem d11_33 : decode prog_36_method_11_code 33 = .ok (.lcmp, 1) := by decide +kernel
theorem d11_34 : decode prog_36_method_11_code 34 = .ok (.ifCond .gt 11, 3) := by decide +kernel
theorem d11_45 : decode prog_36_method_11_code 45 = .ok (.iload 5, 2) := by decide +kernel
theorem d11_47 : decode prog_36_method_11_code 47 = .ok (.istore 4, 2) := by decide +kernel
theorem d11_49 : decode prog_36_method_11_code 49 = .ok (.goto (-38), 3) := by decide +kernel
theorem d11_37 : decode prog_36_method_11_code 37 = .ok (.iload 5, 2) := by decide +kernel
theorem d11_39 : decode prog_36_method_11_code 39 = .ok (.iconst 1, 1) := by decide +kernel
theorem d11_40 : decode prog_36_method_11_code 40 = .ok (.iadd, 1) := by decide +kernel
theorem d11_41 : decode prog_36_method_11_code 41 = .ok (.istore_n 3, 1) := by decide +kernel
theorem d11_42 : decode prog_36_method_11_code 42 = .ok (.goto 7, 3) := by decide +kernel
set_option maxRecDepth 65536 in
set_option maxHeartbeats 40000000 in
theorem own_ploop {p : Program} {l : Launch} {e : Env} {s : State} {m : MethodId} {args : Array Value} {below : List Frame} {meth : Method} {c : Code} {cells slots : Nat} {Z : State} {a0 : Array Value} {n0 : Nat} (hx : p.tables.exec = Jvm.exec) (hZ : Z.Warmed39 s.vm) (hw : ∀ d ∈ tables_1, d.before a0 Z = true) (hby : c.code = prog_36_method_11_code) (hml : c.maxLocals = 6) (hown : s.vm.findClass "com/example/causeline/causeline/core/Filing" = some m.cls) (va vn : Addr) (kn : ClassId) (nn : Int32) (vq : Int64) (ys : List Int64) :
    ∀ (k : Nat) (lo : Nat) (hi : Nat) (s5 : Slot) (T0 : State) (locs : List Loc) (h0 : Heap), Stand p l e ({ frames := 0, cells := 0, slots := 0, locals := 0 } : Room) s m args below meth c T0 locs cells slots → T0.heap = h0 → Fr n0 locs → n0 ≤ h0.size → (hi < 5) → (lo < 6) → (hi - lo ≤ k) → (One s5) → (hi = 0 ∨ nn = (4 : Int32)) → (Fld Z h0 va "com/example/causeline/causeline/core/Filing" "numbers" "[J" (.ref vn)) → (Arv Z h0 vn kn .long nn (ys.map Value.long) (.long (0 : Int64))) → 
      ∃ (T' : State) (h' : Heap) (locs' : List Loc) (x4 : Int32) (s9 : Slot), Stand p l e ({ frames := 0, cells := 0, slots := 0, locals := 0 } : Room) s m args below meth c T' locs' cells slots ∧ T'.heap = h' ∧ Fr n0 locs' ∧ Keep h0 h' [] ∧ (True) ∧ ∀ t, Steps p.tables e below (T'.setTop (mkF m 52 #[.val (.ref va), .val (.long vq), .second, .val (.int (Int32.ofNat (own_bs (own_g ys vq) k lo hi))), .val (.int x4), s9] [])) t → Steps p.tables e below (T0.setTop (mkF m 11 #[.val (.ref va), .val (.long vq), .second, .val (.int (Int32.ofNat lo)), .val (.int (Int32.ofNat hi)), s5] [])) t := by
  intro k
  induction k with
  | zero =>
    intro lo hi s5 T0 locs h0 X0 e0 N0 Z0 hlo hll hk h5 hnn Fn Vn
    have pre0 : ∀ t, Steps p.tables e below (T0.setTop (mkF m 11 #[.val (.ref va), .val (.long vq), .second, .val (.int (Int32.ofNat lo)), .val (.int (Int32.ofNat hi)), s5] [])) t → Steps p.tables e below (T0.setTop (mkF m 11 #[.val (.ref va), .val (.long vq), .second, .val (.int (Int32.ofNat lo)), .val (.int (Int32.ofNat hi)), s5] [])) t := fun t k => k
    have pre1 : ∀ t, Steps p.tables e below (T0.setTop (mkF m 52 #[.val (.ref va), .val (.long vq), .second, .val (.int (Int32.ofNat lo)), .val (.int (Int32.ofNat hi)), s5] [])) t → Steps p.tables e below (T0.setTop (mkF m 11 #[.val (.ref va), .val (.long vq), .second, .val (.int (Int32.ofNat lo)), .val (.int (Int32.ofNat hi)), s5] [])) t := by
      intro t kt
      refine pre0 t ?_
      show Steps p.tables e below (T0.setTop (mkF m 11 #[.val (.ref va), .val (.long vq), .second, .val (.int (Int32.ofNat lo)), .val (.int (Int32.ofNat hi)), s5] [])) _
      refine XS.iloadN X0.here hx rfl (hb hby d11_11) rfl ?_
      show Steps p.tables e below (T0.setTop (mkF m 12 #[.val (.ref va), .val (.long vq), .second, .val (.int (Int32.ofNat lo)), .val (.int (Int32.ofNat hi)), s5] [(.int (Int32.ofNat lo))])) _
      refine XS.iload X0.here hx rfl (hb hby d11_12) rfl ?_
      show Steps p.tables e below (T0.setTop (mkF m 14 #[.val (.ref va), .val (.long vq), .second, .val (.int (Int32.ofNat lo)), .val (.int (Int32.ofNat hi)), s5] [(.int (Int32.ofNat hi)), (.int (Int32.ofNat lo))])) _
      refine XS.icmpYes X0.here hx rfl (pc0 := 14) (pc' := 52) rfl (hb hby d11_14) rfl (flt ((fun q => absurd ((own_lt32 (by omega) (by omega)).mp q) (by omega)) : ¬ ((Int32.ofNat lo) < (Int32.ofNat hi)))).2.1 (by decide) (by decide) ?_
      exact kt
    exact ⟨T0, h0, _, (Int32.ofNat hi), (s5), X0, e0, N0, (Keep.refl h0 []), trivial, fun t kt => pre1 t kt⟩
  | succ k ih =>
    intro lo hi s5 T0 locs h0 X0 e0 N0 Z0 hlo hll hk h5 hnn Fn Vn
    have pre0 : ∀ t, Steps p.tables e below (T0.setTop (mkF m 11 #[.val (.ref va), .val (.long vq), .second, .val (.int (Int32.ofNat lo)), .val (.int (Int32.ofNat hi)), s5] [])) t → Steps p.tables e below (T0.setTop (mkF m 11 #[.val (.ref va), .val (.long vq), .second, .val (.int (Int32.ofNat lo)), .val (.int (Int32.ofNat hi)), s5] [])) t := fun t k => k
    have pre2 : ∀ t, Steps p.tables e below (T0.setTop (mkF m 14 #[.val (.ref va), .val (.long vq), .second, .val (.int (Int32.ofNat lo)), .val (.int (Int32.ofNat hi)), s5] [(.int (Int32.ofNat hi)), (.int (Int32.ofNat lo))])) t → Steps p.tables e below (T0.setTop (mkF m 11 #[.val (.ref va), .val (.long vq), .second, .val (.int (Int32.ofNat lo)), .val (.int (Int32.ofNat hi)), s5] [])) t := by
      intro t kt
      refine pre0 t ?_
      show Steps p.tables e below (T0.setTop (mkF m 11 #[.val (.ref va), .val (.long vq), .second, .val (.int (Int32.ofNat lo)), .val (.int (Int32.ofNat hi)), s5] [])) _
      refine XS.iloadN X0.here hx rfl (hb hby d11_11) rfl ?_
      show Steps p.tables e below (T0.setTop (mkF m 12 #[.val (.ref va), .val (.long vq), .second, .val (.int (Int32.ofNat lo)), .val (.int (Int32.ofNat hi)), s5] [(.int (Int32.ofNat lo))])) _
      refine XS.iload X0.here hx rfl (hb hby d11_12) rfl ?_
      exact kt
    by_cases hc3 : (Int32.ofNat lo) < (Int32.ofNat hi)
    ·
      have pre4 : ∀ t, Steps p.tables e below (T0.setTop (mkF m 25 #[.val (.ref va), .val (.long vq), .second, .val (.int (Int32.ofNat lo)), .val (.int (Int32.ofNat hi)), .val (.int ((((Int32.ofNat lo) + (Int32.ofNat hi)).toUInt32 >>> ((1 : Int32) &&& 31).toUInt32).toInt32))] [])) t → Steps p.tables e below (T0.setTop (mkF m 11 #[.val (.ref va), .val (.long vq), .second, .val (.int (Int32.ofNat lo)), .val (.int (Int32.ofNat hi)), s5] [])) t := by
        intro t kt
        refine pre2 t ?_
        show Steps p.tables e below (T0.setTop (mkF m 14 #[.val (.ref va), .val (.long vq), .second, .val (.int (Int32.ofNat lo)), .val (.int (Int32.ofNat hi)), s5] [(.int (Int32.ofNat hi)), (.int (Int32.ofNat lo))])) _
        refine XS.icmpNo X0.here hx rfl (hb hby d11_14) rfl (tlt (hc3 : (Int32.ofNat lo) < (Int32.ofNat hi))).2.1 ?_
        show Steps p.tables e below (T0.setTop (mkF m 17 #[.val (.ref va), .val (.long vq), .second, .val (.int (Int32.ofNat lo)), .val (.int (Int32.ofNat hi)), s5] [])) _
        refine XS.iloadN X0.here hx rfl (hb hby d11_17) rfl ?_
        show Steps p.tables e below (T0.setTop (mkF m 18 #[.val (.ref va), .val (.long vq), .second, .val (.int (Int32.ofNat lo)), .val (.int (Int32.ofNat hi)), s5] [(.int (Int32.ofNat lo))])) _
        refine XS.iload X0.here hx rfl (hb hby d11_18) rfl ?_
        show Steps p.tables e below (T0.setTop (mkF m 20 #[.val (.ref va), .val (.long vq), .second, .val (.int (Int32.ofNat lo)), .val (.int (Int32.ofNat hi)), s5] [(.int (Int32.ofNat hi)), (.int (Int32.ofNat lo))])) _
        refine XS.iadd X0.here hx rfl (hb hby d11_20) rfl ?_
        show Steps p.tables e below (T0.setTop (mkF m 21 #[.val (.ref va), .val (.long vq), .second, .val (.int (Int32.ofNat lo)), .val (.int (Int32.ofNat hi)), s5] [(.int ((Int32.ofNat lo) + (Int32.ofNat hi)))])) _
        refine XS.iconst X0.here hx rfl (hb hby d11_21) ?_
        show Steps p.tables e below (T0.setTop (mkF m 22 #[.val (.ref va), .val (.long vq), .second, .val (.int (Int32.ofNat lo)), .val (.int (Int32.ofNat hi)), s5] [(.int (1 : Int32)), (.int ((Int32.ofNat lo) + (Int32.ofNat hi)))])) _
        refine XS.iushr X0.here hx rfl (hb hby d11_22) rfl ?_
        show Steps p.tables e below (T0.setTop (mkF m 23 #[.val (.ref va), .val (.long vq), .second, .val (.int (Int32.ofNat lo)), .val (.int (Int32.ofNat hi)), s5] [(.int ((((Int32.ofNat lo) + (Int32.ofNat hi)).toUInt32 >>> ((1 : Int32) &&& 31).toUInt32).toInt32))])) _
        refine XS.istore X0.here hx rfl (hb hby d11_23) rfl (l' := #[.val (.ref va), .val (.long vq), .second, .val (.int (Int32.ofNat lo)), .val (.int (Int32.ofNat hi)), .val (.int ((((Int32.ofNat lo) + (Int32.ofNat hi)).toUInt32 >>> ((1 : Int32) &&& 31).toUInt32).toInt32))]) (own_os5 h5) ?_
        exact kt
      rw [own_mid' (by omega) (by omega)] at pre4
      obtain ⟨T5, X5, e5, st5⟩ := getF X0 hx hZ hown (host := "") (Or.inl (hw _ (List.mem_of_getElem? (i := 30) rfl))) Via.refl e0 Fn (g := (mkF m 26 #[.val (.ref va), .val (.long vq), .second, .val (.int (Int32.ofNat lo)), .val (.int (Int32.ofNat hi)), .val (.int (Int32.ofNat ((lo + hi) / 2)))] [(.ref va)])) rfl rfl (hb hby d11_26)
      obtain ⟨cl6, Ar6, q6, S6, NN6, HH6, GG6⟩ := id Vn
      have hin6 : ¬ ((Int32.ofNat ((lo + hi) / 2)) < 0 ∨ cl6.slots.size ≤ ((Int32.ofNat ((lo + hi) / 2))).toNatClampNeg) := inb_of S6 ⟨(by rw [show (0 : Int32) = Int32.ofNat 0 from rfl, own_lt32 (by omega) (by omega)]; omega), (by have hl := (own_lt32 (by omega) (by omega)).mp hc3; rw [hnn.resolve_left (by omega), show (4 : Int32) = Int32.ofNat 4 from rfl, own_lt32 (by omega) (by omega)]; omega)⟩
      have hat6 : cl6.slots[((Int32.ofNat ((lo + hi) / 2))).toNatClampNeg]? = some (.long (ys.getD ((lo + hi) / 2) 0)) := HH6.at hin6 (by rw [own_nat32 (by omega)]; exact own_getDL _ _)
      have pre7 : ∀ t, Steps p.tables e below (T5.setTop (mkF m 34 #[.val (.ref va), .val (.long vq), .second, .val (.int (Int32.ofNat lo)), .val (.int (Int32.ofNat hi)), .val (.int (Int32.ofNat ((lo + hi) / 2)))] [(.int (lcmpW (ys.getD ((lo + hi) / 2) 0) vq))])) t → Steps p.tables e below (T0.setTop (mkF m 11 #[.val (.ref va), .val (.long vq), .second, .val (.int (Int32.ofNat lo)), .val (.int (Int32.ofNat hi)), s5] [])) t := by
        intro t kt
        refine pre4 t ?_
        show Steps p.tables e below (T0.setTop (mkF m 25 #[.val (.ref va), .val (.long vq), .second, .val (.int (Int32.ofNat lo)), .val (.int (Int32.ofNat hi)), .val (.int (Int32.ofNat ((lo + hi) / 2)))] [])) _
        refine XS.aloadN X0.here hx rfl (hb hby d11_25) rfl rfl ?_
        show Steps p.tables e below (T0.setTop (mkF m 26 #[.val (.ref va), .val (.long vq), .second, .val (.int (Int32.ofNat lo)), .val (.int (Int32.ofNat hi)), .val (.int (Int32.ofNat ((lo + hi) / 2)))] [(.ref va)])) _
        refine st5 _ ?_
        show Steps p.tables e below (T5.setTop (mkF m 29 #[.val (.ref va), .val (.long vq), .second, .val (.int (Int32.ofNat lo)), .val (.int (Int32.ofNat hi)), .val (.int (Int32.ofNat ((lo + hi) / 2)))] [(.ref vn)])) _
        refine XS.iload X5.here hx rfl (hb hby d11_29) rfl ?_
        show Steps p.tables e below (T5.setTop (mkF m 31 #[.val (.ref va), .val (.long vq), .second, .val (.int (Int32.ofNat lo)), .val (.int (Int32.ofNat hi)), .val (.int (Int32.ofNat ((lo + hi) / 2)))] [(.int (Int32.ofNat ((lo + hi) / 2))), (.ref vn)])) _
        refine X5.laload hx (j := (Int32.ofNat ((lo + hi) / 2))) (v := (.long (ys.getD ((lo + hi) / 2) 0))) (by rw [e5]; exact Ar6.1) (State.isArrayOf_alike hZ.alike Ar6.2.1) Ar6.2.2 hin6 hat6 (g := (mkF m 31 #[.val (.ref va), .val (.long vq), .second, .val (.int (Int32.ofNat lo)), .val (.int (Int32.ofNat hi)), .val (.int (Int32.ofNat ((lo + hi) / 2)))] [(.int (Int32.ofNat ((lo + hi) / 2))), (.ref vn)])) rfl rfl (hb hby d11_31) _ ?_
        show Steps p.tables e below (T5.setTop (mkF m 32 #[.val (.ref va), .val (.long vq), .second, .val (.int (Int32.ofNat lo)), .val (.int (Int32.ofNat hi)), .val (.int (Int32.ofNat ((lo + hi) / 2)))] [(.long (ys.getD ((lo + hi) / 2) 0))])) _
        refine XS.lloadN X5.here hx rfl (hb hby d11_32) rfl ?_
        show Steps p.tables e below (T5.setTop (mkF m 33 #[.val (.ref va), .val (.long vq), .second, .val (.int (Int32.ofNat lo)), .val (.int (Int32.ofNat hi)), .val (.int (Int32.ofNat ((lo + hi) / 2)))] [(.long vq), (.long (ys.getD ((lo + hi) / 2) 0))])) _
        refine XS.lcmp X5.here hx rfl (hb hby d11_33) rfl ?_
        exact kt
      by_cases hc8 : vq < (ys.getD ((lo + hi) / 2) 0)
      ·
        have pre9 : ∀ t, Steps p.tables e below (T5.setTop (mkF m 11 #[.val (.ref va), .val (.long vq), .second, .val (.int (Int32.ofNat lo)), .val (.int (Int32.ofNat ((lo + hi) / 2))), .val (.int (Int32.ofNat ((lo + hi) / 2)))] [])) t → Steps p.tables e below (T0.setTop (mkF m 11 #[.val (.ref va), .val (.long vq), .second, .val (.int (Int32.ofNat lo)), .val (.int (Int32.ofNat hi)), s5] [])) t := by
          intro t kt
          refine pre7 t ?_
          show Steps p.tables e below (T5.setTop (mkF m 34 #[.val (.ref va), .val (.long vq), .second, .val (.int (Int32.ofNat lo)), .val (.int (Int32.ofNat hi)), .val (.int (Int32.ofNat ((lo + hi) / 2)))] [(.int (lcmpW (ys.getD ((lo + hi) / 2) 0) vq))])) _
          refine XS.ifYes X5.here hx rfl (pc0 := 34) (pc' := 45) rfl (hb hby d11_34) rfl ((if0 _ _).trans (tlt (((lw_gt _ _).mpr hc8) : (0 : Int32) < (lcmpW (ys.getD ((lo + hi) / 2) 0) vq))).2.2.1) (by decide) (by decide) ?_
          show Steps p.tables e below (T5.setTop (mkF m 45 #[.val (.ref va), .val (.long vq), .second, .val (.int (Int32.ofNat lo)), .val (.int (Int32.ofNat hi)), .val (.int (Int32.ofNat ((lo + hi) / 2)))] [])) _
          refine XS.iload X5.here hx rfl (hb hby d11_45) rfl ?_
          show Steps p.tables e below (T5.setTop (mkF m 47 #[.val (.ref va), .val (.long vq), .second, .val (.int (Int32.ofNat lo)), .val (.int (Int32.ofNat hi)), .val (.int (Int32.ofNat ((lo + hi) / 2)))] [(.int (Int32.ofNat ((lo + hi) / 2)))])) _
          refine XS.istore X5.here hx rfl (hb hby d11_47) rfl (l' := #[.val (.ref va), .val (.long vq), .second, .val (.int (Int32.ofNat lo)), .val (.int (Int32.ofNat ((lo + hi) / 2))), .val (.int (Int32.ofNat ((lo + hi) / 2)))]) rfl ?_
          show Steps p.tables e below (T5.setTop (mkF m 49 #[.val (.ref va), .val (.long vq), .second, .val (.int (Int32.ofNat lo)), .val (.int (Int32.ofNat ((lo + hi) / 2))), .val (.int (Int32.ofNat ((lo + hi) / 2)))] [])) _
          refine XS.goto X5.here hx rfl (pc0 := 49) (pc' := 11) rfl (hb hby d11_49) (by decide) (by decide) ?_
          exact kt
        obtain ⟨T10, h10, locs10, x410, s910, X10, e10, N10, K10, po10_0, run10⟩ := ih (lo) ((lo + hi) / 2) (.val (.int (Int32.ofNat ((lo + hi) / 2)))) T5 _ h0 X5 e5 N0 Z0 (by have := (own_lt32 (by omega) (by omega)).mp hc3; omega) (by have := (own_lt32 (by omega) (by omega)).mp hc3; omega) (by have := (own_lt32 (by omega) (by omega)).mp hc3; omega) (One.val rfl) (Or.inr (hnn.resolve_left (by have := (own_lt32 (by omega) (by omega)).mp hc3; omega))) Fn Vn
        exact ⟨T10, h10, locs10, x410, s910, X10, e10, N10, (Keep.refl h0 []).trans K10 all0, trivial, fun t kt => pre9 t (run10 t (by rw [own_bs, if_pos ((own_lt32 (by omega) (by omega)).mp hc3), if_neg (by rw [own_g, decide_eq_true hc8]; decide)] at kt; exact kt))⟩
      ·
        have pre11 : ∀ t, Steps p.tables e below (T5.setTop (mkF m 11 #[.val (.ref va), .val (.long vq), .second, .val (.int ((Int32.ofNat ((lo + hi) / 2)) + (1 : Int32))), .val (.int (Int32.ofNat hi)), .val (.int (Int32.ofNat ((lo + hi) / 2)))] [])) t → Steps p.tables e below (T0.setTop (mkF m 11 #[.val (.ref va), .val (.long vq), .second, .val (.int (Int32.ofNat lo)), .val (.int (Int32.ofNat hi)), s5] [])) t := by
          intro t kt
          refine pre7 t ?_
          show Steps p.tables e below (T5.setTop (mkF m 34 #[.val (.ref va), .val (.long vq), .second, .val (.int (Int32.ofNat lo)), .val (.int (Int32.ofNat hi)), .val (.int (Int32.ofNat ((lo + hi) / 2)))] [(.int (lcmpW (ys.getD ((lo + hi) / 2) 0) vq))])) _
          refine XS.ifNo X5.here hx rfl (hb hby d11_34) rfl ((if0 _ _).trans (flt ((fun q => hc8 ((lw_gt _ _).mp q)) : ¬ ((0 : Int32) < (lcmpW (ys.getD ((lo + hi) / 2) 0) vq)))).2.2.1) ?_
          show Steps p.tables e below (T5.setTop (mkF m 37 #[.val (.ref va), .val (.long vq), .second, .val (.int (Int32.ofNat lo)), .val (.int (Int32.ofNat hi)), .val (.int (Int32.ofNat ((lo + hi) / 2)))] [])) _
          refine XS.iload X5.here hx rfl (hb hby d11_37) rfl ?_
          show Steps p.tables e below (T5.setTop (mkF m 39 #[.val (.ref va), .val (.long vq), .second, .val (.int (Int32.ofNat lo)), .val (.int (Int32.ofNat hi)), .val (.int (Int32.ofNat ((lo + hi) / 2)))] [(.int (Int32.ofNat ((lo + hi) / 2)))])) _
          refine XS.iconst X5.here hx rfl (hb hby d11_39) ?_
          show Steps p.tables e below (T5.setTop (mkF m 40 #[.val (.ref va), .val (.long vq), .second, .val (.int (Int32.ofNat lo)), .val (.int (Int32.ofNat hi)), .val (.int (Int32.ofNat ((lo + hi) / 2)))] [(.int (1 : Int32)), (.int (Int32.ofNat ((lo + hi) / 2)))])) _
          refine XS.iadd X5.here hx rfl (hb hby d11_40) rfl ?_
          show Steps p.tables e below (T5.setTop (mkF m 41 #[.val (.ref va), .val (.long vq), .second, .val (.int (Int32.ofNat lo)), .val (.int (Int32.ofNat hi)), .val (.int (Int32.ofNat ((lo + hi) / 2)))] [(.int ((Int32.ofNat ((lo + hi) / 2)) + (1 : Int32)))])) _
          refine XS.istoreN X5.here hx rfl (hb hby d11_41) rfl (l' := #[.val (.ref va), .val (.long vq), .second, .val (.int ((Int32.ofNat ((lo + hi) / 2)) + (1 : Int32))), .val (.int (Int32.ofNat hi)), .val (.int (Int32.ofNat ((lo + hi) / 2)))]) rfl ?_
          show Steps p.tables e below (T5.setTop (mkF m 42 #[.val (.ref va), .val (.long vq), .second, .val (.int ((Int32.ofNat ((lo + hi) / 2)) + (1 : Int32))), .val (.int (Int32.ofNat hi)), .val (.int (Int32.ofNat ((lo + hi) / 2)))] [])) _
          refine XS.goto X5.here hx rfl (pc0 := 42) (pc' := 49) rfl (hb hby d11_42) (by decide) (by decide) ?_
          show Steps p.tables e below (T5.setTop (mkF m 49 #[.val (.ref va), .val (.long vq), .second, .val (.int ((Int32.ofNat ((lo + hi) / 2)) + (1 : Int32))), .val (.int (Int32.ofNat hi)), .val (.int (Int32.ofNat ((lo + hi) / 2)))] [])) _
          refine XS.goto X5.here hx rfl (pc0 := 49) (pc' := 11) rfl (hb hby d11_49) (by decide) (by decide) ?_
          exact kt
        rw [own_one] at pre11
        obtain ⟨T12, h12, locs12, x412, s912, X12, e12, N12, K12, po12_0, run12⟩ := ih ((lo + hi) / 2 + 1) (hi) (.val (.int (Int32.ofNat ((lo + hi) / 2)))) T5 _ h0 X5 e5 N0 Z0 (by have := (own_lt32 (by omega) (by omega)).mp hc3; omega) (by have := (own_lt32 (by omega) (by omega)).mp hc3; omega) (by have := (own_lt32 (by omega) (by omega)).mp hc3; omega) (One.val rfl) (Or.inr (hnn.resolve_left (by have := (own_lt32 (by omega) (by omega)).mp hc3; omega))) Fn Vn
        exact ⟨T12, h12, locs12, x412, s912, X12, e12, N12, (Keep.refl h0 []).trans K12 all0, trivial, fun t kt => pre11 t (run12 t (by rw [own_bs, if_pos ((own_lt32 (by omega) (by omega)).mp hc3), if_pos (by rw [own_g, decide_eq_false hc8]; rfl)] at kt; exact kt))⟩
    ·
      have pre13 : ∀ t, Steps p.tables e below (T0.setTop (mkF m 52 #[.val (.ref va), .val (.long vq), .second, .val (.int (Int32.ofNat lo)), .val (.int (Int32.ofNat hi)), s5] [])) t → Steps p.tables e below (T0.setTop (mkF m 11 #[.val (.ref va), .val (.long vq), .second, .val (.int (Int32.ofNat lo)), .val (.int (Int32.ofNat hi)), s5] [])) t := by
        intro t kt
        refine pre2 t ?_
        show Steps p.tables e below (T0.setTop (mkF m 14 #[.val (.ref va), .val (.long vq), .second, .val (.int (Int32.ofNat lo)), .val (.int (Int32.ofNat hi)), s5] [(.int (Int32.ofNat hi)), (.int (Int32.ofNat lo))])) _
        refine XS.icmpYes X0.here hx rfl (pc0 := 14) (pc' := 52) rfl (hb hby d11_14) rfl (flt (hc3 : ¬ ((Int32.ofNat lo) < (Int32.ofNat hi)))).2.1 (by decide) (by decide) ?_
        exact kt
      exact ⟨T0, h0, _, (Int32.ofNat hi), (s5), X0, e0, N0, (Keep.refl h0 []), trivial, fun t kt => pre13 t (by rw [own_bs_done _ _ _ _ (fun q => hc3 ((own_lt32 (by omega) (by omega)).mpr q))] at kt; exact kt)⟩
theorem d11_0 : decode prog_36_method_11_code 0 = .ok (.aload_n 0, 1) := by decide +kernel
theorem d11_1 : decode prog_36_method_11_code 1 = .ok (.getfield 30, 3) := by decide +kernel
theorem d11_4 : decode prog_36_method_11_code 4 = .ok (.istore_n 3, 1) := by decide +kernel
theorem d11_5 : decode prog_36_method_11_code 5 = .ok (.aload_n 0, 1) := by decide +kernel
theorem d11_6 : decode prog_36_method_11_code 6 = .ok (.getfield 23, 3) := by decide +kernel
theorem d11_9 : decode prog_36_method_11_code 9 = .ok (.istore 4, 2) := by decide +kernel
theorem d11_52 : decode prog_36_method_11_code 52 = .ok (.iload_n 3, 1) := by decide +kernel
theorem d11_53 : decode prog_36_method_11_code 53 = .ok (.ireturn, 1) := by decide +kernel
theorem ef_rm11 (m : MethodId) (x0 : Addr) (x1 : Int64) : entryFrame m #[(.ref x0), (.long x1)] 6 = mkF m 0 #[.val (.ref x0), .val (.long x1), .second, .unset, .unset, .unset] [] := by first | (simp [entryFrame, mkF, argsToLocals, Value.category]; done) | rfl
def Q11 (Z : State) (va : Addr) (vq : Int64) (vn : Addr) (kn : ClassId) (nn : Int32) (ys : List Int64) (lo hi : Nat) (h0 : Heap) (n0 : Nat) (v : Option Value) (h : Heap) (L : List Loc) : Prop := v = some (.int (Int32.ofNat (own_bs (own_g ys vq) 4 lo hi))) ∧ Fr n0 L ∧ Keep h0 h []
set_option maxRecDepth 65536 in
set_option maxHeartbeats 40000000 in
theorem rm11 (l : Launch) (Z : State) (a0 : Array Value) (hw : ∀ d ∈ tables_1, d.before a0 Z = true) (ws : List Jvm.Cond) (va : Addr) (vq : Int64) (vn : Addr) (kn : ClassId) (nn : Int32) (ys : List Int64) (lo hi : Nat) (h0 : Heap) (n0 : Nat) (Z0 : n0 ≤ h0.size) (Fn : Fld Z h0 va "com/example/causeline/causeline/core/Filing" "numbers" "[J" (.ref vn)) (Ff : Fld Z h0 va "com/example/causeline/causeline/core/Filing" "first" "I" (.int (Int32.ofNat lo))) (Fe : Fld Z h0 va "com/example/causeline/causeline/core/Filing" "end" "I" (.int (Int32.ofNat hi))) (Vn : Arv Z h0 vn kn .long nn (ys.map Value.long) (.long (0 : Int64))) (hhi : hi < 5) (hlo : lo < 6) (hlh : hi - lo ≤ 4) (hnn : hi = 0 ∨ nn = (4 : Int32)) :
    MetFree l (⟨"com/example/causeline/causeline/core/Filing", "past", "(J)I"⟩ : MethodName) (head1 (Jvm.Cond.code (⟨"com/example/causeline/causeline/core/Filing", "past", "(J)I"⟩ : MethodName) prog_36_method_11_code 6 (some .int) :: ws) ({ frames := 0, cells := 0, slots := 0, locals := 0 } : Room)) (fun a U => a = #[(.ref va), (.long vq)] ∧ Z.Warmed39 U.vm ∧ U.heap = h0) (fun _ _ _ _ _ => True) (fun _ U o U' => ∃ v L, o = .returned v ∧ Q11 Z va vq vn kn nn ys lo hi h0 n0 v U'.heap L ∧ FrameEnd U o U' L ({ frames := 0, cells := 0, slots := 0, locals := 0 } : Room).cells ({ frames := 0, cells := 0, slots := 0, locals := 0 } : Room).slots) := by
  refine MetFree.of_bodySF (plainFor_of_name pn_48) hisR ?_
  intro p e s m args below meth c s₁ Bd hml0 hP hK
  obtain ⟨rfl, hZ, hh⟩ := hP
  have hx := Bd.exec
  have hby := Bd.bytes
  have hml : c.maxLocals = 6 := hml0
  have hown : s.vm.findClass "com/example/causeline/causeline/core/Filing" = some m.cls := findClass_of_methodNamed Bd.named
  have hnm := (name_of_methodNamed Bd.named Bd.method).1
  have X0 : Stand p l e ({ frames := 0, cells := 0, slots := 0, locals := 0 } : Room) s m #[(.ref va), (.long vq)] below meth c s₁ [] 0 0 := Stand.of_body Bd
  have e0 : s₁.heap = h0 := by rw [← hh, Bd.state]; rfl
  have N0 := Fr.nil n0
  have pre0 : ∀ t, Steps p.tables e below (s₁.setTop (mkF m 0 #[.val (.ref va), .val (.long vq), .second, .unset, .unset, .unset] [])) t → Steps p.tables e below (s₁.setTop (entryFrame m #[(.ref va), (.long vq)] 6)) t := fun t k => castTop (ef_rm11 m va vq) k
  obtain ⟨T1, X1, e1, st1⟩ := getF X0 hx hZ hown (host := "") (Or.inl (hw _ (List.mem_of_getElem? (i := 72) rfl))) Via.refl e0 Ff (g := (mkF m 1 #[.val (.ref va), .val (.long vq), .second, .unset, .unset, .unset] [(.ref va)])) rfl rfl (hb hby d11_1)
  obtain ⟨T2, X2, e2, st2⟩ := getF X1 hx hZ hown (host := "") (Or.inl (hw _ (List.mem_of_getElem? (i := 66) rfl))) Via.refl e1 Fe (g := (mkF m 6 #[.val (.ref va), .val (.long vq), .second, .val (.int (Int32.ofNat lo)), .unset, .unset] [(.ref va)])) rfl rfl (hb hby d11_6)
  have pre3 : ∀ t, Steps p.tables e below (T2.setTop (mkF m 11 #[.val (.ref va), .val (.long vq), .second, .val (.int (Int32.ofNat lo)), .val (.int (Int32.ofNat hi)), .unset] [])) t → Steps p.tables e below (s₁.setTop (entryFrame m #[(.ref va), (.long vq)] 6)) t := by
    intro t kt
    refine pre0 t ?_
    show Steps p.tables e below (s₁.setTop (mkF m 0 #[.val (.ref va), .val (.long vq), .second, .unset, .unset, .unset] [])) _
    refine XS.aloadN X0.here hx rfl (hb hby d11_0) rfl rfl ?_
    show Steps p.tables e below (s₁.setTop (mkF m 1 #[.val (.ref va), .val (.long vq), .second, .unset, .unset, .unset] [(.ref va)])) _
    refine st1 _ ?_
    show Steps p.tables e below (T1.setTop (mkF m 4 #[.val (.ref va), .val (.long vq), .second, .unset, .unset, .unset] [(.int (Int32.ofNat lo))])) _
    refine XS.istoreN X1.here hx rfl (hb hby d11_4) rfl (l' := #[.val (.ref va), .val (.long vq), .second, .val (.int (Int32.ofNat lo)), .unset, .unset]) rfl ?_
    show Steps p.tables e below (T1.setTop (mkF m 5 #[.val (.ref va), .val (.long vq), .second, .val (.int (Int32.ofNat lo)), .unset, .unset] [])) _
    refine XS.aloadN X1.here hx rfl (hb hby d11_5) rfl rfl ?_
    show Steps p.tables e below (T1.setTop (mkF m 6 #[.val (.ref va), .val (.long vq), .second, .val (.int (Int32.ofNat lo)), .unset, .unset] [(.ref va)])) _
    refine st2 _ ?_
    show Steps p.tables e below (T2.setTop (mkF m 9 #[.val (.ref va), .val (.long vq), .second, .val (.int (Int32.ofNat lo)), .unset, .unset] [(.int (Int32.ofNat hi))])) _
    refine XS.istore X2.here hx rfl (hb hby d11_9) rfl (l' := #[.val (.ref va), .val (.long vq), .second, .val (.int (Int32.ofNat lo)), .val (.int (Int32.ofNat hi)), .unset]) rfl ?_
    exact kt
  obtain ⟨T4, h4, L4, x4, s9, X4, e4, N4, K4, -, run4⟩ := own_ploop hx hZ hw hby hml hown va vn kn nn vq ys 4 lo hi .unset T2 _ h0 X2 e2 N0 Z0 hhi hlo hlh One.u hnn Fn Vn
  obtain ⟨fs, hr, hrun, hended, hW, hsame⟩ := X4.leave (v := some (.int (Int32.ofNat (own_bs (own_g ys vq) 4 lo hi)))) (fun h => by rw [Bd.returns] at h; cases h) (hlocks := BodyLoose.notSynchronized Bd)
  refine ⟨_, _, pre3 _ ?_, hrun, hended, _, _, rfl, ?_, ⟨_, rfl⟩, hW, hsame.mono (by decide) (by decide)⟩
  ·
    show Steps p.tables e below (T2.setTop (mkF m 11 #[.val (.ref va), .val (.long vq), .second, .val (.int (Int32.ofNat lo)), .val (.int (Int32.ofNat hi)), .unset] [])) _
    refine run4 _ ?_
    show Steps p.tables e below (T4.setTop (mkF m 52 #[.val (.ref va), .val (.long vq), .second, .val (.int (Int32.ofNat (own_bs (own_g ys vq) 4 lo hi))), .val (.int x4), s9] [])) _
    refine XS.iloadN X4.here hx rfl (hb hby d11_52) rfl ?_
    show Steps p.tables e below (T4.setTop (mkF m 53 #[.val (.ref va), .val (.long vq), .second, .val (.int (Int32.ofNat (own_bs (own_g ys vq) 4 lo hi))), .val (.int x4), s9] [(.int (Int32.ofNat (own_bs (own_g ys vq) 4 lo hi)))])) _
    exact retOut X4 hx (t := .int) (i := .ireturn) Bd.returns rfl (Or.inl ⟨rfl, Or.inl rfl, _, rfl⟩) (hb hby d11_53) hr
  ·
    show Q11 Z va vq vn kn nn ys lo hi h0 n0 _ T4.heap _
    rw [e4]
    exact ⟨rfl, N4, K4⟩
theorem own_nat7 (u : Int32) : ∃ n : Nat, n < 8 ∧ (u &&& (7 : Int32)) = Int32.ofNat n := by
  refine ⟨(u &&& (7 : Int32)).toBitVec.toNat, ?_, ?_⟩
  · simp only [Int32.toBitVec_and, BitVec.toNat_and]
    exact Nat.lt_succ_of_le Nat.and_le_right
  · apply Int32.toBitVec_inj.mp
    show _ = BitVec.ofNat 32 _
    rw [BitVec.ofNat_toNat]; simp
theorem own_k5 {kk u : Int32} (h : kk = (u &&& (7 : Int32)) % (5 : Int32)) : kk = (0 : Int32) ∨ kk = (1 : Int32) ∨ kk = (2 : Int32) ∨ kk = (3 : Int32) ∨ kk = (4 : Int32) := by
  obtain ⟨n, hn, e⟩ := own_nat7 u
  have t : ∀ n : Fin 8, (Int32.ofNat n.val) % (5 : Int32) = (0 : Int32) ∨ (Int32.ofNat n.val) % (5 : Int32) = (1 : Int32) ∨ (Int32.ofNat n.val) % (5 : Int32) = (2 : Int32) ∨ (Int32.ofNat n.val) % (5 : Int32) = (3 : Int32) ∨ (Int32.ofNat n.val) % (5 : Int32) = (4 : Int32) := by decide +kernel
  rw [h, e]; exact t ⟨n, hn⟩
theorem own_k1 {kk : Int32} (h : kk = (0 : Int32) ∨ kk = (1 : Int32) ∨ kk = (2 : Int32) ∨ kk = (3 : Int32) ∨ kk = (4 : Int32)) : kk + (1 : Int32) ≠ 0 := by
  rcases h with rfl | rfl | rfl | rfl | rfl <;> decide
theorem own_dn0 {dd y : Int32} (h : dd = (y &&& (7 : Int32)) % ((0 : Int32) + (1 : Int32))) : ∃ dn : Nat, dn ≤ 0 ∧ dd = Int32.ofNat dn := by
  obtain ⟨n, hn, e⟩ := own_nat7 y
  have t : ∀ n : Fin 8, (Int32.ofNat n.val) % ((0 : Int32) + (1 : Int32)) = Int32.ofNat (n.val % 1) := by decide +kernel
  exact ⟨n % 1, by omega, by rw [h, e]; exact t ⟨n, hn⟩⟩
theorem own_ef_n0 {dn : Nat} (h : dn < 5) : own_ef (Int32.ofNat dn) (0 : Int32) = Int32.ofNat (if dn = 0 then 0 else dn) := by
  have t : ∀ n : Fin 5, own_ef (Int32.ofNat n.val) (0 : Int32) = Int32.ofNat (if n.val = 0 then 0 else n.val) := by decide +kernel
  exact t ⟨dn, h⟩
theorem own_ee_n0 {dn : Nat} (h : dn < 5) : own_ee (Int32.ofNat dn) (0 : Int32) = Int32.ofNat (if dn = 0 then 0 else 0) := by
  have t : ∀ n : Fin 5, own_ee (Int32.ofNat n.val) (0 : Int32) = Int32.ofNat (if n.val = 0 then 0 else 0) := by decide +kernel
  exact t ⟨dn, h⟩
theorem own_dn1 {dd y : Int32} (h : dd = (y &&& (7 : Int32)) % ((1 : Int32) + (1 : Int32))) : ∃ dn : Nat, dn ≤ 1 ∧ dd = Int32.ofNat dn := by
  obtain ⟨n, hn, e⟩ := own_nat7 y
  have t : ∀ n : Fin 8, (Int32.ofNat n.val) % ((1 : Int32) + (1 : Int32)) = Int32.ofNat (n.val % 2) := by decide +kernel
  exact ⟨n % 2, by omega, by rw [h, e]; exact t ⟨n, hn⟩⟩
theorem own_ef_n1 {dn : Nat} (h : dn < 5) : own_ef (Int32.ofNat dn) (1 : Int32) = Int32.ofNat (if dn = 1 then 0 else dn) := by
  have t : ∀ n : Fin 5, own_ef (Int32.ofNat n.val) (1 : Int32) = Int32.ofNat (if n.val = 1 then 0 else n.val) := by decide +kernel
  exact t ⟨dn, h⟩
theorem own_ee_n1 {dn : Nat} (h : dn < 5) : own_ee (Int32.ofNat dn) (1 : Int32) = Int32.ofNat (if dn = 1 then 0 else 1) := by
  have t : ∀ n : Fin 5, own_ee (Int32.ofNat n.val) (1 : Int32) = Int32.ofNat (if n.val = 1 then 0 else 1) := by decide +kernel
  exact t ⟨dn, h⟩
theorem own_dn2 {dd y : Int32} (h : dd = (y &&& (7 : Int32)) % ((2 : Int32) + (1 : Int32))) : ∃ dn : Nat, dn ≤ 2 ∧ dd = Int32.ofNat dn := by
  obtain ⟨n, hn, e⟩ := own_nat7 y
  have t : ∀ n : Fin 8, (Int32.ofNat n.val) % ((2 : Int32) + (1 : Int32)) = Int32.ofNat (n.val % 3) := by decide +kernel
  exact ⟨n % 3, by omega, by rw [h, e]; exact t ⟨n, hn⟩⟩
theorem own_ef_n2 {dn : Nat} (h : dn < 5) : own_ef (Int32.ofNat dn) (2 : Int32) = Int32.ofNat (if dn = 2 then 0 else dn) := by
  have t : ∀ n : Fin 5, own_ef (Int32.ofNat n.val) (2 : Int32) = Int32.ofNat (if n.val = 2 then 0 else n.val) := by decide +kernel
  exact t ⟨dn, h⟩
theorem own_ee_n2 {dn : Nat} (h : dn < 5) : own_ee (Int32.ofNat dn) (2 : Int32) = Int32.ofNat (if dn = 2 then 0 else 2) := by
  have t : ∀ n : Fin 5, own_ee (Int32.ofNat n.val) (2 : Int32) = Int32.ofNat (if n.val = 2 then 0 else 2) := by decide +kernel
  exact t ⟨dn, h⟩
theorem own_dn3 {dd y : Int32} (h : dd = (y &&& (7 : Int32)) % ((3 : Int32) + (1 : Int32))) : ∃ dn : Nat, dn ≤ 3 ∧ dd = Int32.ofNat dn := by
  obtain ⟨n, hn, e⟩ := own_nat7 y
  have t : ∀ n : Fin 8, (Int32.ofNat n.val) % ((3 : Int32) + (1 : Int32)) = Int32.ofNat (n.val % 4) := by decide +kernel
  exact ⟨n % 4, by omega, by rw [h, e]; exact t ⟨n, hn⟩⟩
theorem own_ef_n3 {dn : Nat} (h : dn < 5) : own_ef (Int32.ofNat dn) (3 : Int32) = Int32.ofNat (if dn = 3 then 0 else dn) := by
  have t : ∀ n : Fin 5, own_ef (Int32.ofNat n.val) (3 : Int32) = Int32.ofNat (if n.val = 3 then 0 else n.val) := by decide +kernel
  exact t ⟨dn, h⟩
theorem own_ee_n3 {dn : Nat} (h : dn < 5) : own_ee (Int32.ofNat dn) (3 : Int32) = Int32.ofNat (if dn = 3 then 0 else 3) := by
  have t : ∀ n : Fin 5, own_ee (Int32.ofNat n.val) (3 : Int32) = Int32.ofNat (if n.val = 3 then 0 else 3) := by decide +kernel
  exact t ⟨dn, h⟩
theorem own_dn4 {dd y : Int32} (h : dd = (y &&& (7 : Int32)) % ((4 : Int32) + (1 : Int32))) : ∃ dn : Nat, dn ≤ 4 ∧ dd = Int32.ofNat dn := by
  obtain ⟨n, hn, e⟩ := own_nat7 y
  have t : ∀ n : Fin 8, (Int32.ofNat n.val) % ((4 : Int32) + (1 : Int32)) = Int32.ofNat (n.val % 5) := by decide +kernel
  exact ⟨n % 5, by omega, by rw [h, e]; exact t ⟨n, hn⟩⟩
theorem own_ef_n4 {dn : Nat} (h : dn < 5) : own_ef (Int32.ofNat dn) (4 : Int32) = Int32.ofNat (if dn = 4 then 0 else dn) := by
  have t : ∀ n : Fin 5, own_ef (Int32.ofNat n.val) (4 : Int32) = Int32.ofNat (if n.val = 4 then 0 else n.val) := by decide +kernel
  exact t ⟨dn, h⟩
theorem own_ee_n4 {dn : Nat} (h : dn < 5) : own_ee (Int32.ofNat dn) (4 : Int32) = Int32.ofNat (if dn = 4 then 0 else 4) := by
  have t : ∀ n : Fin 5, own_ee (Int32.ofNat n.val) (4 : Int32) = Int32.ofNat (if n.val = 4 then 0 else 4) := by decide +kernel
  exact t ⟨dn, h⟩
theorem own_mn_t (a b : Int64) : (own_mn a b).toInt ≤ a.toInt ∧ (own_mn a b).toInt ≤ b.toInt ∧ ((own_mn a b).toInt = a.toInt ∨ (own_mn a b).toInt = b.toInt) := by
  unfold own_mn; split <;> rename_i h <;> rw [Int64.lt_iff_toInt_lt] at h <;> omega
theorem own_mx_t (a b : Int64) : a.toInt ≤ (own_mx a b).toInt ∧ b.toInt ≤ (own_mx a b).toInt ∧ ((own_mx a b).toInt = a.toInt ∨ (own_mx a b).toInt = b.toInt) := by
  unfold own_mx; split <;> rename_i h <;> rw [Int64.lt_iff_toInt_lt] at h <;> omega
theorem own_sorted {a b c e p0 p1 p2 p3 q0 q2 q1 q3 r1 r2 : Int64} (h1 : p0 = own_mn a b) (h2 : p1 = own_mx a b) (h3 : p2 = own_mn c e) (h4 : p3 = own_mx c e) (h5 : q0 = own_mn p0 p2) (h6 : q2 = own_mx p0 p2) (h7 : q1 = own_mn p1 p3) (h8 : q3 = own_mx p1 p3) (h9 : r1 = own_mn q1 q2) (h10 : r2 = own_mx q1 q2) : ¬ r1 < q0 ∧ ¬ r2 < r1 ∧ ¬ q3 < r2 := by
  have t1 := own_mn_t a b
  have t2 := own_mx_t a b
  have t3 := own_mn_t c e
  have t4 := own_mx_t c e
  have t5 := own_mn_t p0 p2
  have t6 := own_mx_t p0 p2
  have t7 := own_mn_t p1 p3
  have t8 := own_mx_t p1 p3
  have t9 := own_mn_t q1 q2
  have t10 := own_mx_t q1 q2
  rw [← h1] at t1; rw [← h2] at t2; rw [← h3] at t3; rw [← h4] at t4; rw [← h5] at t5; rw [← h6] at t6; rw [← h7] at t7; rw [← h8] at t8; rw [← h9] at t9; rw [← h10] at t10
  simp only [Int64.lt_iff_toInt_lt]
  omega
theorem own_bs_b (ys : List Int64) (q : Int64) (k lo hi : Nat) : own_bs (own_g ys q) k lo hi = own_bs (fun i => (ys.map fun y => !decide (q < y)).getD i (!decide (q < 0))) k lo hi := by
  have e : own_g ys q = fun i => (ys.map fun y => !decide (q < y)).getD i (!decide (q < 0)) := by
    funext i
    simp only [own_g, List.getD_eq_getElem?_getD, List.getElem?_map]
    cases ys[i]? <;> rfl
  rw [e]
theorem own_cnd (q y : Int64) : (if q < y then (0 : Int32) else (1 : Int32)) = cond (decide (q < y)) 0 1 := by
  by_cases h : q < y <;> simp [h]
theorem own_fin0t (dn : Nat) (hdn : dn ≤ 0) (hc : Int32.ofNat dn < (0 : Int32)) {y0 y1 y2 y3 q : Int64} (s01 : ¬ y1 < y0) (s12 : ¬ y2 < y1) (s23 : ¬ y3 < y2) : (Int32.ofNat (own_bs (own_g [] q) 4 (if dn = 0 then 0 else dn) (if dn = 0 then 0 else 0))) = (((((Int32.ofNat dn) + (own_in0 va (Int32.ofNat dn) (0 : Int32) q y0 y1 y2 y3)) + (own_in1 va (Int32.ofNat dn) (0 : Int32) q y0 y1 y2 y3)) + (own_in2 va (Int32.ofNat dn) (0 : Int32) q y0 y1 y2 y3)) + (own_in3 va (Int32.ofNat dn) (0 : Int32) q y0 y1 y2 y3)) := by
  have t : ∀ n : Fin 5, Int32.ofNat n.val < (0 : Int32) ↔ n.val < 0 := by decide +kernel
  have hc' : dn < 0 := (t ⟨dn, by omega⟩).mp hc
  exact absurd hc' (by omega)
theorem own_fin0f (dn : Nat) (hdn : dn ≤ 0) (hc : ¬ (Int32.ofNat dn < (0 : Int32))) {y0 y1 y2 y3 q : Int64} (s01 : ¬ y1 < y0) (s12 : ¬ y2 < y1) (s23 : ¬ y3 < y2) : (Int32.ofNat (own_bs (own_g [] q) 4 (if dn = 0 then 0 else dn) (if dn = 0 then 0 else 0))) = (0 : Int32) := by
  have t : ∀ n : Fin 5, Int32.ofNat n.val < (0 : Int32) ↔ n.val < 0 := by decide +kernel
  have hc' : ¬ dn < 0 := fun q => hc ((t ⟨dn, by omega⟩).mpr q)
  obtain rfl : dn = 0 := Nat.le_antisymm hdn (Nat.le_of_not_lt hc')
  exact congrArg Int32.ofNat (own_bs_done _ 4 0 0 (by decide))
theorem own_b10 : ∀ b0 b1 b2 b3 bz : Bool, (b0 = true → b1 = true) → (b1 = true → b2 = true) → (b2 = true → b3 = true) → Int32.ofNat (own_bs (fun i => ([!b0, !bz, !bz, !bz] : List Bool).getD i (!bz)) 4 0 1) = (((((Int32.ofNat 0) + (if (0 : Int32) < Int32.ofNat 0 then (0 : Int32) else (if (0 : Int32) < (1 : Int32) then cond b0 0 1 else (0 : Int32)))) + (if (1 : Int32) < Int32.ofNat 0 then (0 : Int32) else (if (1 : Int32) < (1 : Int32) then cond b1 0 1 else (0 : Int32)))) + (if (2 : Int32) < Int32.ofNat 0 then (0 : Int32) else (if (2 : Int32) < (1 : Int32) then cond b2 0 1 else (0 : Int32)))) + (if (3 : Int32) < Int32.ofNat 0 then (0 : Int32) else (if (3 : Int32) < (1 : Int32) then cond b3 0 1 else (0 : Int32)))) := by decide +kernel
theorem own_fin1t (dn : Nat) (hdn : dn ≤ 1) (hc : Int32.ofNat dn < (1 : Int32)) {y0 y1 y2 y3 q : Int64} (s01 : ¬ y1 < y0) (s12 : ¬ y2 < y1) (s23 : ¬ y3 < y2) : (Int32.ofNat (own_bs (own_g [y0, (0 : Int64), (0 : Int64), (0 : Int64)] q) 4 (if dn = 1 then 0 else dn) (if dn = 1 then 0 else 1))) = (((((Int32.ofNat dn) + (own_in0 va (Int32.ofNat dn) (1 : Int32) q y0 y1 y2 y3)) + (own_in1 va (Int32.ofNat dn) (1 : Int32) q y0 y1 y2 y3)) + (own_in2 va (Int32.ofNat dn) (1 : Int32) q y0 y1 y2 y3)) + (own_in3 va (Int32.ofNat dn) (1 : Int32) q y0 y1 y2 y3)) := by
  have t : ∀ n : Fin 5, Int32.ofNat n.val < (1 : Int32) ↔ n.val < 1 := by decide +kernel
  have hlt : dn < 1 := (t ⟨dn, by omega⟩).mp hc
  rw [if_neg (by omega), if_neg (by omega), own_bs_b]
  have m01 : decide (q < y0) = true → decide (q < y1) = true := by simp only [Int64.lt_iff_toInt_lt, decide_eq_true_eq] at *; omega
  have m12 : decide (q < y1) = true → decide (q < y2) = true := by simp only [Int64.lt_iff_toInt_lt, decide_eq_true_eq] at *; omega
  have m23 : decide (q < y2) = true → decide (q < y3) = true := by simp only [Int64.lt_iff_toInt_lt, decide_eq_true_eq] at *; omega
  have hd : dn = 0 := by omega
  rw [own_in0, own_in1, own_in2, own_in3, own_cnd, own_cnd, own_cnd, own_cnd]
  rcases hd with rfl
  · exact own_b10 _ _ _ _ _ m01 m12 m23
theorem own_fin1f (dn : Nat) (hdn : dn ≤ 1) (hc : ¬ (Int32.ofNat dn < (1 : Int32))) {y0 y1 y2 y3 q : Int64} (s01 : ¬ y1 < y0) (s12 : ¬ y2 < y1) (s23 : ¬ y3 < y2) : (Int32.ofNat (own_bs (own_g [y0, (0 : Int64), (0 : Int64), (0 : Int64)] q) 4 (if dn = 1 then 0 else dn) (if dn = 1 then 0 else 1))) = (0 : Int32) := by
  have t : ∀ n : Fin 5, Int32.ofNat n.val < (1 : Int32) ↔ n.val < 1 := by decide +kernel
  have hc' : ¬ dn < 1 := fun q => hc ((t ⟨dn, by omega⟩).mpr q)
  obtain rfl : dn = 1 := Nat.le_antisymm hdn (Nat.le_of_not_lt hc')
  exact congrArg Int32.ofNat (own_bs_done _ 4 0 0 (by decide))
theorem own_b20 : ∀ b0 b1 b2 b3 bz : Bool, (b0 = true → b1 = true) → (b1 = true → b2 = true) → (b2 = true → b3 = true) → Int32.ofNat (own_bs (fun i => ([!b0, !b1, !bz, !bz] : List Bool).getD i (!bz)) 4 0 2) = (((((Int32.ofNat 0) + (if (0 : Int32) < Int32.ofNat 0 then (0 : Int32) else (if (0 : Int32) < (2 : Int32) then cond b0 0 1 else (0 : Int32)))) + (if (1 : Int32) < Int32.ofNat 0 then (0 : Int32) else (if (1 : Int32) < (2 : Int32) then cond b1 0 1 else (0 : Int32)))) + (if (2 : Int32) < Int32.ofNat 0 then (0 : Int32) else (if (2 : Int32) < (2 : Int32) then cond b2 0 1 else (0 : Int32)))) + (if (3 : Int32) < Int32.ofNat 0 then (0 : Int32) else (if (3 : Int32) < (2 : Int32) then cond b3 0 1 else (0 : Int32)))) := by decide +kernel
theorem own_b21 : ∀ b0 b1 b2 b3 bz : Bool, (b0 = true → b1 = true) → (b1 = true → b2 = true) → (b2 = true → b3 = true) → Int32.ofNat (own_bs (fun i => ([!b0, !b1, !bz, !bz] : List Bool).getD i (!bz)) 4 1 2) = (((((Int32.ofNat 1) + (if (0 : Int32) < Int32.ofNat 1 then (0 : Int32) else (if (0 : Int32) < (2 : Int32) then cond b0 0 1 else (0 : Int32)))) + (if (1 : Int32) < Int32.ofNat 1 then (0 : Int32) else (if (1 : Int32) < (2 : Int32) then cond b1 0 1 else (0 : Int32)))) + (if (2 : Int32) < Int32.ofNat 1 then (0 : Int32) else (if (2 : Int32) < (2 : Int32) then cond b2 0 1 else (0 : Int32)))) + (if (3 : Int32) < Int32.ofNat 1 then (0 : Int32) else (if (3 : Int32) < (2 : Int32) then cond b3 0 1 else (0 : Int32)))) := by decide +kernel
theorem own_fin2t (dn : Nat) (hdn : dn ≤ 2) (hc : Int32.ofNat dn < (2 : Int32)) {y0 y1 y2 y3 q : Int64} (s01 : ¬ y1 < y0) (s12 : ¬ y2 < y1) (s23 : ¬ y3 < y2) : (Int32.ofNat (own_bs (own_g [y0, y1, (0 : Int64), (0 : Int64)] q) 4 (if dn = 2 then 0 else dn) (if dn = 2 then 0 else 2))) = (((((Int32.ofNat dn) + (own_in0 va (Int32.ofNat dn) (2 : Int32) q y0 y1 y2 y3)) + (own_in1 va (Int32.ofNat dn) (2 : Int32) q y0 y1 y2 y3)) + (own_in2 va (Int32.ofNat dn) (2 : Int32) q y0 y1 y2 y3)) + (own_in3 va (Int32.ofNat dn) (2 : Int32) q y0 y1 y2 y3)) := by
  have t : ∀ n : Fin 5, Int32.ofNat n.val < (2 : Int32) ↔ n.val < 2 := by decide +kernel
  have hlt : dn < 2 := (t ⟨dn, by omega⟩).mp hc
  rw [if_neg (by omega), if_neg (by omega), own_bs_b]
  have m01 : decide (q < y0) = true → decide (q < y1) = true := by simp only [Int64.lt_iff_toInt_lt, decide_eq_true_eq] at *; omega
  have m12 : decide (q < y1) = true → decide (q < y2) = true := by simp only [Int64.lt_iff_toInt_lt, decide_eq_true_eq] at *; omega
  have m23 : decide (q < y2) = true → decide (q < y3) = true := by simp only [Int64.lt_iff_toInt_lt, decide_eq_true_eq] at *; omega
  have hd : dn = 0 ∨ dn = 1 := by omega
  rw [own_in0, own_in1, own_in2, own_in3, own_cnd, own_cnd, own_cnd, own_cnd]
  rcases hd with rfl | rfl
  · exact own_b20 _ _ _ _ _ m01 m12 m23
  · exact own_b21 _ _ _ _ _ m01 m12 m23
theorem own_fin2f (dn : Nat) (hdn : dn ≤ 2) (hc : ¬ (Int32.ofNat dn < (2 : Int32))) {y0 y1 y2 y3 q : Int64} (s01 : ¬ y1 < y0) (s12 : ¬ y2 < y1) (s23 : ¬ y3 < y2) : (Int32.ofNat (own_bs (own_g [y0, y1, (0 : Int64), (0 : Int64)] q) 4 (if dn = 2 then 0 else dn) (if dn = 2 then 0 else 2))) = (0 : Int32) := by
  have t : ∀ n : Fin 5, Int32.ofNat n.val < (2 : Int32) ↔ n.val < 2 := by decide +kernel
  have hc' : ¬ dn < 2 := fun q => hc ((t ⟨dn, by omega⟩).mpr q)
  obtain rfl : dn = 2 := Nat.le_antisymm hdn (Nat.le_of_not_lt hc')
  exact congrArg Int32.ofNat (own_bs_done _ 4 0 0 (by decide))
theorem own_b30 : ∀ b0 b1 b2 b3 bz : Bool, (b0 = true → b1 = true) → (b1 = true → b2 = true) → (b2 = true → b3 = true) → Int32.ofNat (own_bs (fun i => ([!b0, !b1, !b2, !bz] : List Bool).getD i (!bz)) 4 0 3) = (((((Int32.ofNat 0) + (if (0 : Int32) < Int32.ofNat 0 then (0 : Int32) else (if (0 : Int32) < (3 : Int32) then cond b0 0 1 else (0 : Int32)))) + (if (1 : Int32) < Int32.ofNat 0 then (0 : Int32) else (if (1 : Int32) < (3 : Int32) then cond b1 0 1 else (0 : Int32)))) + (if (2 : Int32) < Int32.ofNat 0 then (0 : Int32) else (if (2 : Int32) < (3 : Int32) then cond b2 0 1 else (0 : Int32)))) + (if (3 : Int32) < Int32.ofNat 0 then (0 : Int32) else (if (3 : Int32) < (3 : Int32) then cond b3 0 1 else (0 : Int32)))) := by decide +kernel
theorem own_b31 : ∀ b0 b1 b2 b3 bz : Bool, (b0 = true → b1 = true) → (b1 = true → b2 = true) → (b2 = true → b3 = true) → Int32.ofNat (own_bs (fun i => ([!b0, !b1, !b2, !bz] : List Bool).getD i (!bz)) 4 1 3) = (((((Int32.ofNat 1) + (if (0 : Int32) < Int32.ofNat 1 then (0 : Int32) else (if (0 : Int32) < (3 : Int32) then cond b0 0 1 else (0 : Int32)))) + (if (1 : Int32) < Int32.ofNat 1 then (0 : Int32) else (if (1 : Int32) < (3 : Int32) then cond b1 0 1 else (0 : Int32)))) + (if (2 : Int32) < Int32.ofNat 1 then (0 : Int32) else (if (2 : Int32) < (3 : Int32) then cond b2 0 1 else (0 : Int32)))) + (if (3 : Int32) < Int32.ofNat 1 then (0 : Int32) else (if (3 : Int32) < (3 : Int32) then cond b3 0 1 else (0 : Int32)))) := by decide +kernel
theorem own_b32 : ∀ b0 b1 b2 b3 bz : Bool, (b0 = true → b1 = true) → (b1 = true → b2 = true) → (b2 = true → b3 = true) → Int32.ofNat (own_bs (fun i => ([!b0, !b1, !b2, !bz] : List Bool).getD i (!bz)) 4 2 3) = (((((Int32.ofNat 2) + (if (0 : Int32) < Int32.ofNat 2 then (0 : Int32) else (if (0 : Int32) < (3 : Int32) then cond b0 0 1 else (0 : Int32)))) + (if (1 : Int32) < Int32.ofNat 2 then (0 : Int32) else (if (1 : Int32) < (3 : Int32) then cond b1 0 1 else (0 : Int32)))) + (if (2 : Int32) < Int32.ofNat 2 then (0 : Int32) else (if (2 : Int32) < (3 : Int32) then cond b2 0 1 else (0 : Int32)))) + (if (3 : Int32) < Int32.ofNat 2 then (0 : Int32) else (if (3 : Int32) < (3 : Int32) then cond b3 0 1 else (0 : Int32)))) := by decide +kernel
theorem own_fin3t (dn : Nat) (hdn : dn ≤ 3) (hc : Int32.ofNat dn < (3 : Int32)) {y0 y1 y2 y3 q : Int64} (s01 : ¬ y1 < y0) (s12 : ¬ y2 < y1) (s23 : ¬ y3 < y2) : (Int32.ofNat (own_bs (own_g [y0, y1, y2, (0 : Int64)] q) 4 (if dn = 3 then 0 else dn) (if dn = 3 then 0 else 3))) = (((((Int32.ofNat dn) + (own_in0 va (Int32.ofNat dn) (3 : Int32) q y0 y1 y2 y3)) + (own_in1 va (Int32.ofNat dn) (3 : Int32) q y0 y1 y2 y3)) + (own_in2 va (Int32.ofNat dn) (3 : Int32) q y0 y1 y2 y3)) + (own_in3 va (Int32.ofNat dn) (3 : Int32) q y0 y1 y2 y3)) := by
  have t : ∀ n : Fin 5, Int32.ofNat n.val < (3 : Int32) ↔ n.val < 3 := by decide +kernel
  have hlt : dn < 3 := (t ⟨dn, by omega⟩).mp hc
  rw [if_neg (by omega), if_neg (by omega), own_bs_b]
  have m01 : decide (q < y0) = true → decide (q < y1) = true := by simp only [Int64.lt_iff_toInt_lt, decide_eq_true_eq] at *; omega
  have m12 : decide (q < y1) = true → decide (q < y2) = true := by simp only [Int64.lt_iff_toInt_lt, decide_eq_true_eq] at *; omega
  have m23 : decide (q < y2) = true → decide (q < y3) = true := by simp only [Int64.lt_iff_toInt_lt, decide_eq_true_eq] at *; omega
  have hd : dn = 0 ∨ dn = 1 ∨ dn = 2 := by omega
  rw [own_in0, own_in1, own_in2, own_in3, own_cnd, own_cnd, own_cnd, own_cnd]
  rcases hd with rfl | rfl | rfl
  · exact own_b30 _ _ _ _ _ m01 m12 m23
  · exact own_b31 _ _ _ _ _ m01 m12 m23
  · exact own_b32 _ _ _ _ _ m01 m12 m23
theorem own_fin3f (dn : Nat) (hdn : dn ≤ 3) (hc : ¬ (Int32.ofNat dn < (3 : Int32))) {y0 y1 y2 y3 q : Int64} (s01 : ¬ y1 < y0) (s12 : ¬ y2 < y1) (s23 : ¬ y3 < y2) : (Int32.ofNat (own_bs (own_g [y0, y1, y2, (0 : Int64)] q) 4 (if dn = 3 then 0 else dn) (if dn = 3 then 0 else 3))) = (0 : Int32) := by
  have t : ∀ n : Fin 5, Int32.ofNat n.val < (3 : Int32) ↔ n.val < 3 := by decide +kernel
  have hc' : ¬ dn < 3 := fun q => hc ((t ⟨dn, by omega⟩).mpr q)
  obtain rfl : dn = 3 := Nat.le_antisymm hdn (Nat.le_of_not_lt hc')
  exact congrArg Int32.ofNat (own_bs_done _ 4 0 0 (by decide))
theorem own_b40 : ∀ b0 b1 b2 b3 bz : Bool, (b0 = true → b1 = true) → (b1 = true → b2 = true) → (b2 = true → b3 = true) → Int32.ofNat (own_bs (fun i => ([!b0, !b1, !b2, !b3] : List Bool).getD i (!bz)) 4 0 4) = (((((Int32.ofNat 0) + (if (0 : Int32) < Int32.ofNat 0 then (0 : Int32) else (if (0 : Int32) < (4 : Int32) then cond b0 0 1 else (0 : Int32)))) + (if (1 : Int32) < Int32.ofNat 0 then (0 : Int32) else (if (1 : Int32) < (4 : Int32) then cond b1 0 1 else (0 : Int32)))) + (if (2 : Int32) < Int32.ofNat 0 then (0 : Int32) else (if (2 : Int32) < (4 : Int32) then cond b2 0 1 else (0 : Int32)))) + (if (3 : Int32) < Int32.ofNat 0 then (0 : Int32) else (if (3 : Int32) < (4 : Int32) then cond b3 0 1 else (0 : Int32)))) := by decide +kernel
theorem own_b41 : ∀ b0 b1 b2 b3 bz : Bool, (b0 = true → b1 = true) → (b1 = true → b2 = true) → (b2 = true → b3 = true) → Int32.ofNat (own_bs (fun i => ([!b0, !b1, !b2, !b3] : List Bool).getD i (!bz)) 4 1 4) = (((((Int32.ofNat 1) + (if (0 : Int32) < Int32.ofNat 1 then (0 : Int32) else (if (0 : Int32) < (4 : Int32) then cond b0 0 1 else (0 : Int32)))) + (if (1 : Int32) < Int32.ofNat 1 then (0 : Int32) else (if (1 : Int32) < (4 : Int32) then cond b1 0 1 else (0 : Int32)))) + (if (2 : Int32) < Int32.ofNat 1 then (0 : Int32) else (if (2 : Int32) < (4 : Int32) then cond b2 0 1 else (0 : Int32)))) + (if (3 : Int32) < Int32.ofNat 1 then (0 : Int32) else (if (3 : Int32) < (4 : Int32) then cond b3 0 1 else (0 : Int32)))) := by decide +kernel
theorem own_b42 : ∀ b0 b1 b2 b3 bz : Bool, (b0 = true → b1 = true) → (b1 = true → b2 = true) → (b2 = true → b3 = true) → Int32.ofNat (own_bs (fun i => ([!b0, !b1, !b2, !b3] : List Bool).getD i (!bz)) 4 2 4) = (((((Int32.ofNat 2) + (if (0 : Int32) < Int32.ofNat 2 then (0 : Int32) else (if (0 : Int32) < (4 : Int32) then cond b0 0 1 else (0 : Int32)))) + (if (1 : Int32) < Int32.ofNat 2 then (0 : Int32) else (if (1 : Int32) < (4 : Int32) then cond b1 0 1 else (0 : Int32)))) + (if (2 : Int32) < Int32.ofNat 2 then (0 : Int32) else (if (2 : Int32) < (4 : Int32) then cond b2 0 1 else (0 : Int32)))) + (if (3 : Int32) < Int32.ofNat 2 then (0 : Int32) else (if (3 : Int32) < (4 : Int32) then cond b3 0 1 else (0 : Int32)))) := by decide +kernel
theorem own_b43 : ∀ b0 b1 b2 b3 bz : Bool, (b0 = true → b1 = true) → (b1 = true → b2 = true) → (b2 = true → b3 = true) → Int32.ofNat (own_bs (fun i => ([!b0, !b1, !b2, !b3] : List Bool).getD i (!bz)) 4 3 4) = (((((Int32.ofNat 3) + (if (0 : Int32) < Int32.ofNat 3 then (0 : Int32) else (if (0 : Int32) < (4 : Int32) then cond b0 0 1 else (0 : Int32)))) + (if (1 : Int32) < Int32.ofNat 3 then (0 : Int32) else (if (1 : Int32) < (4 : Int32) then cond b1 0 1 else (0 : Int32)))) + (if (2 : Int32) < Int32.ofNat 3 then (0 : Int32) else (if (2 : Int32) < (4 : Int32) then cond b2 0 1 else (0 : Int32)))) + (if (3 : Int32) < Int32.ofNat 3 then (0 : Int32) else (if (3 : Int32) < (4 : Int32) then cond b3 0 1 else (0 : Int32)))) := by decide +kernel
theorem own_fin4t (dn : Nat) (hdn : dn ≤ 4) (hc : Int32.ofNat dn < (4 : Int32)) {y0 y1 y2 y3 q : Int64} (s01 : ¬ y1 < y0) (s12 : ¬ y2 < y1) (s23 : ¬ y3 < y2) : (Int32.ofNat (own_bs (own_g [y0, y1, y2, y3] q) 4 (if dn = 4 then 0 else dn) (if dn = 4 then 0 else 4))) = (((((Int32.ofNat dn) + (own_in0 va (Int32.ofNat dn) (4 : Int32) q y0 y1 y2 y3)) + (own_in1 va (Int32.ofNat dn) (4 : Int32) q y0 y1 y2 y3)) + (own_in2 va (Int32.ofNat dn) (4 : Int32) q y0 y1 y2 y3)) + (own_in3 va (Int32.ofNat dn) (4 : Int32) q y0 y1 y2 y3)) := by
  have t : ∀ n : Fin 5, Int32.ofNat n.val < (4 : Int32) ↔ n.val < 4 := by decide +kernel
  have hlt : dn < 4 := (t ⟨dn, by omega⟩).mp hc
  rw [if_neg (by omega), if_neg (by omega), own_bs_b]
  have m01 : decide (q < y0) = true → decide (q < y1) = true := by simp only [Int64.lt_iff_toInt_lt, decide_eq_true_eq] at *; omega
  have m12 : decide (q < y1) = true → decide (q < y2) = true := by simp only [Int64.lt_iff_toInt_lt, decide_eq_true_eq] at *; omega
  have m23 : decide (q < y2) = true → decide (q < y3) = true := by simp only [Int64.lt_iff_toInt_lt, decide_eq_true_eq] at *; omega
  have hd : dn = 0 ∨ dn = 1 ∨ dn = 2 ∨ dn = 3 := by omega
  rw [own_in0, own_in1, own_in2, own_in3, own_cnd, own_cnd, own_cnd, own_cnd]
  rcases hd with rfl | rfl | rfl | rfl
  · exact own_b40 _ _ _ _ _ m01 m12 m23
  · exact own_b41 _ _ _ _ _ m01 m12 m23
  · exact own_b42 _ _ _ _ _ m01 m12 m23
  · exact own_b43 _ _ _ _ _ m01 m12 m23
theorem own_fin4f (dn : Nat) (hdn : dn ≤ 4) (hc : ¬ (Int32.ofNat dn < (4 : Int32))) {y0 y1 y2 y3 q : Int64} (s01 : ¬ y1 < y0) (s12 : ¬ y2 < y1) (s23 : ¬ y3 < y2) : (Int32.ofNat (own_bs (own_g [y0, y1, y2, y3] q) 4 (if dn = 4 then 0 else dn) (if dn = 4 then 0 else 4))) = (0 : Int32) := by
  have t : ∀ n : Fin 5, Int32.ofNat n.val < (4 : Int32) ↔ n.val < 4 := by decide +kernel
  have hc' : ¬ dn < 4 := fun q => hc ((t ⟨dn, by omega⟩).mpr q)
  obtain rfl : dn = 4 := Nat.le_antisymm hdn (Nat.le_of_not_lt hc')
  exact congrArg Int32.ofNat (own_bs_done _ 4 0 0 (by decide))
theorem own_none {s : State} {args : Array Value} {t : Term} {vN : Addr} {cl : Cell} (evN : t.eval args s none [] s = some (.ref vN)) (Arc : Arr s s.heap vN cl .long) (hf : Fit s) (hlen : (Cond.eq (.length t) (.int (0 : Int32))).value args s none s [] = some true) : ∃ kN : ClassId, Arv s s.heap vN kN .long (0 : Int32) [] (.long (0 : Int64)) := by
  have hat : s.arrayAt? vN = some cl := Arc.fin (Vm.Alike.refl _)
  obtain ⟨x, y, e1, e2, k1, k2⟩ := cmp_v (Or.inl hlen)
  have hsm : cl.slots.size < 2 ^ 31 := by
    rcases Nat.lt_or_ge cl.slots.size (2 ^ 31) with q | q
    · exact q
    · have hno : (Term.length t).eval args s none [] s = none := by
        rw [Term.eval, evN]; simp [hat, Nat.not_lt.mpr q]
      rw [hno] at e1; cases e1
  have e1' := len_f evN hat hsm
  have hz : cl.slots.size.toInt32 = (0 : Int32) := by
    have e2' : (Term.int (0 : Int32)).eval args s none [] s = some (.int (0 : Int32)) := rfl
    simpa only [Cond.value, e1', e2', Option.some.injEq, decide_eq_true_eq] using hlen
  exact ⟨cl.cls, Arv.start hf Arc hsm hz (by decide) rfl trivial⟩
theorem own_w0 {dn k : Nat} (h : dn ≤ k) (hk : k < 5) : dn < 5 := Nat.lt_of_le_of_lt h hk
theorem own_w1 {dn k : Nat} (h : dn ≤ k) (hk : k < 5) : (if dn = k then 0 else k) < 5 := by split <;> omega
theorem own_w2 {dn k : Nat} (h : dn ≤ k) (hk : k < 5) : (if dn = k then 0 else dn) < 6 := by split <;> omega
theorem own_w3 {dn k : Nat} (h : dn ≤ k) (hk : k < 5) : (if dn = k then 0 else k) - (if dn = k then 0 else dn) ≤ 4 := by split <;> omega
theorem pd_2 : parseMethodDescriptor "([JII)V" = some ⟨[(.array .long), .int, .int], none⟩ := by decide +kernel
theorem pd_3 : parseMethodDescriptor "(Lcom/example/causeline/causeline/core/CopyTable;)V" = some ⟨[(.object "com/example/causeline/causeline/core/CopyTable")], none⟩ := by decide +kernel
theorem pd_4 : parseMethodDescriptor "(Lcom/example/causeline/causeline/core/Message;JJJJI)V" = some ⟨[(.object "com/example/causeline/causeline/core/Message"), .long, .long, .long, .long, .int], none⟩ := by decide +kernel
theorem pd_5 : parseMethodDescriptor "(I)I" = some ⟨[.int], some .int⟩ := by decide +kernel
theorem pd_6 : parseMethodDescriptor "(J)I" = some ⟨[.long], some .int⟩ := by decide +kernel
theorem pd_7 : parseMethodDescriptor "([JIIIJ)I" = some ⟨[(.array .long), .int, .int, .int, .long], some .int⟩ := by decide +kernel
theorem pd_8 : parseMethodDescriptor "(JLcom/example/causeline/causeline/core/Waiting;)V" = some ⟨[.long, (.object "com/example/causeline/causeline/core/Waiting")], none⟩ := by decide +kernel
theorem ef_rm0 (m : MethodId) (x0 : Int64) (x1 : Int64) (x2 : Int64) (x3 : Int64) (x4 : Int64) (x5 : Int32) : entryFrame m #[(.long x0), (.long x1), (.long x2), (.long x3), (.long x4), (.int x5)] maxLocals = mkF m 0 #[.val (.long x0), .second, .val (.long x1), .second, .val (.long x2), .second, .val (.long x3), .second, .val (.long x4), .second, .val (.int x5), .unset, .unset, .unset, .unset, .unset, .unset, .unset] [] := by first | (simp [entryFrame, mkF, argsToLocals, Value.category, maxLocals]; done) | rfl
def Q0 (Z : State) (va_ : Int64) (vb_ : Int64) (vc_ : Int64) (ve_ : Int64) (vq : Int64) (vctl : Int32) (vN : Addr) (kN : ClassId) (h0 : Heap) (n0 : Nat) (v : Option Value) (h : Heap) (L : List Loc) : Prop := v = some (.int (1 : Int32)) ∧ Fr n0 L
set_option maxRecDepth 65536 in
set_option maxHeartbeats 40000000 in
theorem rm0 (l : Launch) (Z : State) (a0 : Array Value) (hw : ∀ d ∈ tables_1, d.before a0 Z = true) (ws : List Jvm.Cond) (va_ : Int64) (vb_ : Int64) (vc_ : Int64) (ve_ : Int64) (vq : Int64) (vctl : Int32) (vN : Addr) (kN : ClassId) (h0 : Heap) (n0 : Nat) (Z0 : n0 ≤ h0.size) (S_N : Sta Z h0 "com/example/causeline/causeline/core/Filing" "NOTHING" "[J" (.ref vN)) (VN : Arv Z h0 vN kN .long (0 : Int32) [] (.long (0 : Int64))) :
    MetFree l x (head1 (Jvm.Cond.code x code maxLocals ret :: ws) room_1) (fun a U => a = #[(.long va_), (.long vb_), (.long vc_), (.long ve_), (.long vq), (.int vctl)] ∧ Z.Warmed39 U.vm ∧ U.heap = h0) (fun _ _ _ _ _ => True) (fun _ U o U' => ∃ v L, o = .returned v ∧ Q0 Z va_ vb_ vc_ ve_ vq vctl vN kN h0 n0 v U'.heap L ∧ FrameEnd U o U' L room_1.cells room_1.slots) := by
  refine MetFree.of_bodySF (plainFor_of_name pn_23) hisR ?_
  intro p e s m args below meth c s₁ Bd hml0 hP hK
  obtain ⟨rfl, hZ, hh⟩ := hP
  have hx := Bd.exec
  have hby := Bd.bytes
  have hml : c.maxLocals = 18 := hml0
  have hown : s.vm.findClass "com/example/causeline/causeline/core/FilingPastPinLaw" = some m.cls := findClass_of_methodNamed Bd.named
  have hnm := (name_of_methodNamed Bd.named Bd.method).1
  have X0 : Stand p l e room_1 s m #[(.long va_), (.long vb_), (.long vc_), (.long ve_), (.long vq), (.int vctl)] below meth c s₁ [] 0 0 := Stand.of_body Bd
  have e0 : s₁.heap = h0 := by rw [← hh, Bd.state]; rfl
  have N0 := Fr.nil n0
  have pre0 : ∀ t, Steps p.tables e below (s₁.setTop (mkF m 0 #[.val (.long va_), .second, .val (.long vb_), .second, .val (.long vc_), .second, .val (.long ve_), .second, .val (.long vq), .second, .val (.int vctl), .unset, .unset, .unset, .unset, .unset, .unset, .unset] [])) t → Steps p.tables e below (s₁.setTop (entryFrame m #[(.long va_), (.long vb_), (.long vc_), (.long ve_), (.long vq), (.int vctl)] maxLocals)) t := fun t k => castTop (ef_rm0 m va_ vb_ vc_ ve_ vq vctl) k
  have pre1 : ∀ t, Steps p.tables e below (s₁.setTop (mkF m 9 #[.val (.long va_), .second, .val (.long vb_), .second, .val (.long vc_), .second, .val (.long ve_), .second, .val (.long vq), .second, .val (.int vctl), .val (.int ((vctl &&& (7 : Int32)) % (5 : Int32))), .unset, .unset, .unset, .unset, .unset, .unset] [])) t → Steps p.tables e below (s₁.setTop (entryFrame m #[(.long va_), (.long vb_), (.long vc_), (.long ve_), (.long vq), (.int vctl)] maxLocals)) t := by
    intro t kt
    refine pre0 t ?_
    show Steps p.tables e below (s₁.setTop (mkF m 0 #[.val (.long va_), .second, .val (.long vb_), .second, .val (.long vc_), .second, .val (.long ve_), .second, .val (.long vq), .second, .val (.int vctl), .unset, .unset, .unset, .unset, .unset, .unset, .unset] [])) _
    refine XS.iload X0.here hx rfl (hb hby at_0) rfl ?_
    show Steps p.tables e below (s₁.setTop (mkF m 2 #[.val (.long va_), .second, .val (.long vb_), .second, .val (.long vc_), .second, .val (.long ve_), .second, .val (.long vq), .second, .val (.int vctl), .unset, .unset, .unset, .unset, .unset, .unset, .unset] [(.int vctl)])) _
    refine XS.bipush X0.here hx rfl (hb hby at_2) ?_
    show Steps p.tables e below (s₁.setTop (mkF m 4 #[.val (.long va_), .second, .val (.long vb_), .second, .val (.long vc_), .second, .val (.long ve_), .second, .val (.long vq), .second, .val (.int vctl), .unset, .unset, .unset, .unset, .unset, .unset, .unset] [(.int (7 : Int32)), (.int vctl)])) _
    refine XS.iand X0.here hx rfl (hb hby at_4) rfl ?_
    show Steps p.tables e below (s₁.setTop (mkF m 5 #[.val (.long va_), .second, .val (.long vb_), .second, .val (.long vc_), .second, .val (.long ve_), .second, .val (.long vq), .second, .val (.int vctl), .unset, .unset, .unset, .unset, .unset, .unset, .unset] [(.int (vctl &&& (7 : Int32)))])) _
    refine XS.iconst X0.here hx rfl (hb hby at_5) ?_
    show Steps p.tables e below (s₁.setTop (mkF m 6 #[.val (.long va_), .second, .val (.long vb_), .second, .val (.long vc_), .second, .val (.long ve_), .second, .val (.long vq), .second, .val (.int vctl), .unset, .unset, .unset, .unset, .unset, .unset, .unset] [(.int (5 : Int32)), (.int (vctl &&& (7 : Int32)))])) _
    refine iremM X0 hx rfl (hb hby at_6) rfl (by decide) ?_
    show Steps p.tables e below (s₁.setTop (mkF m 7 #[.val (.long va_), .second, .val (.long vb_), .second, .val (.long vc_), .second, .val (.long ve_), .second, .val (.long vq), .second, .val (.int vctl), .unset, .unset, .unset, .unset, .unset, .unset, .unset] [(.int ((vctl &&& (7 : Int32)) % (5 : Int32)))])) _
    refine XS.istore X0.here hx rfl (hb hby at_7) rfl (l' := #[.val (.long va_), .second, .val (.long vb_), .second, .val (.long vc_), .second, .val (.long ve_), .second, .val (.long vq), .second, .val (.int vctl), .val (.int ((vctl &&& (7 : Int32)) % (5 : Int32))), .unset, .unset, .unset, .unset, .unset, .unset]) rfl ?_
    exact kt
  obtain ⟨kk, hkk⟩ : ∃ z : Int32, z = ((vctl &&& (7 : Int32)) % (5 : Int32)) := ⟨_, rfl⟩
  rw [← hkk] at pre1
  have hk5 := own_k5 hkk
  have pre2 : ∀ t, Steps p.tables e below (s₁.setTop (mkF m 23 #[.val (.long va_), .second, .val (.long vb_), .second, .val (.long vc_), .second, .val (.long ve_), .second, .val (.long vq), .second, .val (.int vctl), .val (.int kk), .val (.int ((((vctl.toUInt32 >>> ((3 : Int32) &&& 31).toUInt32).toInt32) &&& (7 : Int32)) % (kk + (1 : Int32)))), .unset, .unset, .unset, .unset, .unset] [])) t → Steps p.tables e below (s₁.setTop (entryFrame m #[(.long va_), (.long vb_), (.long vc_), (.long ve_), (.long vq), (.int vctl)] maxLocals)) t := by
    intro t kt
    refine pre1 t ?_
    show Steps p.tables e below (s₁.setTop (mkF m 9 #[.val (.long va_), .second, .val (.long vb_), .second, .val (.long vc_), .second, .val (.long ve_), .second, .val (.long vq), .second, .val (.int vctl), .val (.int kk), .unset, .unset, .unset, .unset, .unset, .unset] [])) _
    refine XS.iload X0.here hx rfl (hb hby at_9) rfl ?_
    show Steps p.tables e below (s₁.setTop (mkF m 11 #[.val (.long va_), .second, .val (.long vb_), .second, .val (.long vc_), .second, .val (.long ve_), .second, .val (.long vq), .second, .val (.int vctl), .val (.int kk), .unset, .unset, .unset, .unset, .unset, .unset] [(.int vctl)])) _
    refine XS.iconst X0.here hx rfl (hb hby at_11) ?_
    show Steps p.tables e below (s₁.setTop (mkF m 12 #[.val (.long va_), .second, .val (.long vb_), .second, .val (.long vc_), .second, .val (.long ve_), .second, .val (.long vq), .second, .val (.int vctl), .val (.int kk), .unset, .unset, .unset, .unset, .unset, .unset] [(.int (3 : Int32)), (.int vctl)])) _
    refine XS.iushr X0.here hx rfl (hb hby at_12) rfl ?_
    show Steps p.tables e below (s₁.setTop (mkF m 13 #[.val (.long va_), .second, .val (.long vb_), .second, .val (.long vc_), .second, .val (.long ve_), .second, .val (.long vq), .second, .val (.int vctl), .val (.int kk), .unset, .unset, .unset, .unset, .unset, .unset] [(.int ((vctl.toUInt32 >>> ((3 : Int32) &&& 31).toUInt32).toInt32))])) _
    refine XS.bipush X0.here hx rfl (hb hby at_13) ?_
    show Steps p.tables e below (s₁.setTop (mkF m 15 #[.val (.long va_), .second, .val (.long vb_), .second, .val (.long vc_), .second, .val (.long ve_), .second, .val (.long vq), .second, .val (.int vctl), .val (.int kk), .unset, .unset, .unset, .unset, .unset, .unset] [(.int (7 : Int32)), (.int ((vctl.toUInt32 >>> ((3 : Int32) &&& 31).toUInt32).toInt32))])) _
    refine XS.iand X0.here hx rfl (hb hby at_15) rfl ?_
    show Steps p.tables e below (s₁.setTop (mkF m 16 #[.val (.long va_), .second, .val (.long vb_), .second, .val (.long vc_), .second, .val (.long ve_), .second, .val (.long vq), .second, .val (.int vctl), .val (.int kk), .unset, .unset, .unset, .unset, .unset, .unset] [(.int (((vctl.toUInt32 >>> ((3 : Int32) &&& 31).toUInt32).toInt32) &&& (7 : Int32)))])) _
    refine XS.iload X0.here hx rfl (hb hby at_16) rfl ?_
    show Steps p.tables e below (s₁.setTop (mkF m 18 #[.val (.long va_), .second, .val (.long vb_), .second, .val (.long vc_), .second, .val (.long ve_), .second, .val (.long vq), .second, .val (.int vctl), .val (.int kk), .unset, .unset, .unset, .unset, .unset, .unset] [(.int kk), (.int (((vctl.toUInt32 >>> ((3 : Int32) &&& 31).toUInt32).toInt32) &&& (7 : Int32)))])) _
    refine XS.iconst X0.here hx rfl (hb hby at_18) ?_
    show Steps p.tables e below (s₁.setTop (mkF m 19 #[.val (.long va_), .second, .val (.long vb_), .second, .val (.long vc_), .second, .val (.long ve_), .second, .val (.long vq), .second, .val (.int vctl), .val (.int kk), .unset, .unset, .unset, .unset, .unset, .unset] [(.int (1 : Int32)), (.int kk), (.int (((vctl.toUInt32 >>> ((3 : Int32) &&& 31).toUInt32).toInt32) &&& (7 : Int32)))])) _
    refine XS.iadd X0.here hx rfl (hb hby at_19) rfl ?_
    show Steps p.tables e below (s₁.setTop (mkF m 20 #[.val (.long va_), .second, .val (.long vb_), .second, .val (.long vc_), .second, .val (.long ve_), .second, .val (.long vq), .second, .val (.int vctl), .val (.int kk), .unset, .unset, .unset, .unset, .unset, .unset] [(.int (kk + (1 : Int32))), (.int (((vctl.toUInt32 >>> ((3 : Int32) &&& 31).toUInt32).toInt32) &&& (7 : Int32)))])) _
    refine iremM X0 hx rfl (hb hby at_20) rfl (own_k1 hk5) ?_
    show Steps p.tables e below (s₁.setTop (mkF m 21 #[.val (.long va_), .second, .val (.long vb_), .second, .val (.long vc_), .second, .val (.long ve_), .second, .val (.long vq), .second, .val (.int vctl), .val (.int kk), .unset, .unset, .unset, .unset, .unset, .unset] [(.int ((((vctl.toUInt32 >>> ((3 : Int32) &&& 31).toUInt32).toInt32) &&& (7 : Int32)) % (kk + (1 : Int32))))])) _
    refine XS.istore X0.here hx rfl (hb hby at_21) rfl (l' := #[.val (.long va_), .second, .val (.long vb_), .second, .val (.long vc_), .second, .val (.long ve_), .second, .val (.long vq), .second, .val (.int vctl), .val (.int kk), .val (.int ((((vctl.toUInt32 >>> ((3 : Int32) &&& 31).toUInt32).toInt32) &&& (7 : Int32)) % (kk + (1 : Int32)))), .unset, .unset, .unset, .unset, .unset]) rfl ?_
    exact kt
  obtain ⟨dd, hdd⟩ : ∃ z : Int32, z = ((((vctl.toUInt32 >>> ((3 : Int32) &&& 31).toUInt32).toInt32) &&& (7 : Int32)) % (kk + (1 : Int32))) := ⟨_, rfl⟩
  rw [← hdd] at pre2
  obtain ⟨T3, h3, k3, X3, e3, E3, A3, st3⟩ := newP X0 hx hZ (hw _ (List.mem_of_getElem? (i := 0) rfl)) e0 (g := (mkF m 24 #[.val (.long va_), .second, .val (.long vb_), .second, .val (.long vc_), .second, .val (.long ve_), .second, .val (.long vq), .second, .val (.int vctl), .val (.int kk), .val (.int dd), .unset, .unset, .unset, .unset, .unset] [(.int (4 : Int32))])) rfl (hb hby at_24) rfl (by decide) (cap := 4) (by decide) (by decide) (by decide) (by decide)
  obtain ⟨b3, g3⟩ : ∃ z, z = h0.size := ⟨_, rfl⟩
  rw [← g3] at A3 st3
  have g_b3 : n0 ≤ b3 := Nat.le_trans Z0 (Nat.le_of_eq g3.symm)
  have sz_b3 : h0.size ≤ b3 := Nat.le_trans (Keep.refl h0 []).1 (Nat.le_of_eq g3.symm)
  have Z3 : n0 ≤ h3.size := Nat.le_trans Z0 E3.1
  have K3 : Keep h0 h3 [] := (Keep.refl h0 []).ext E3
  have V3 : Arv Z h3 b3 k3 .long (4 : Int32) [(.long (0 : Int64)), (.long (0 : Int64)), (.long (0 : Int64)), (.long (0 : Int64))] (.long (0 : Int64)) := (Arv.new A3 (by decide)).pad (pad_rep [] (.long (0 : Int64)) 4)
  obtain ⟨cl4, Ar4, q4, S4, NN4, HH4, GG4⟩ := id V3
  have hin4 : ¬ ((0 : Int32) < 0 ∨ cl4.slots.size ≤ ((0 : Int32)).toNatClampNeg) := inb_of S4 ⟨by decide, by decide⟩
  obtain ⟨T5, h5, X5, e5, W5, st5⟩ := stJ X3 hx hZ e3 Ar4 (j := (0 : Int32)) hin4  (g := (mkF m 29 #[.val (.long va_), .second, .val (.long vb_), .second, .val (.long vc_), .second, .val (.long ve_), .second, .val (.long vq), .second, .val (.int vctl), .val (.int kk), .val (.int dd), .unset, .unset, .unset, .unset, .unset] [(.long va_), (.int (0 : Int32)), (.ref b3), (.ref b3)])) rfl rfl (hb hby at_29)
  have V5 : Arv Z h5 b3 k3 .long (4 : Int32) [(.long va_), (.long (0 : Int64)), (.long (0 : Int64)), (.long (0 : Int64))] (.long (0 : Int64)) := (Arv.set Ar4 q4 S4 NN4 HH4 GG4 rfl W5 0 rfl (Nat.le_of_ble_eq_true rfl))
  have Z5 : n0 ≤ h5.size := Nat.le_trans Z3 (Keep.of_wr W5).1
  have N5 := Fr.snoc X5 N0 g_b3
  have K5 : Keep h0 h5 [] := K3.wr W5 (Or.inr sz_b3)
  obtain ⟨cl6, Ar6, q6, S6, NN6, HH6, GG6⟩ := id V5
  have hin6 : ¬ ((1 : Int32) < 0 ∨ cl6.slots.size ≤ ((1 : Int32)).toNatClampNeg) := inb_of S6 ⟨by decide, by decide⟩
  obtain ⟨T7, h7, X7, e7, W7, st7⟩ := stJ X5 hx hZ e5 Ar6 (j := (1 : Int32)) hin6  (g := (mkF m 33 #[.val (.long va_), .second, .val (.long vb_), .second, .val (.long vc_), .second, .val (.long ve_), .second, .val (.long vq), .second, .val (.int vctl), .val (.int kk), .val (.int dd), .unset, .unset, .unset, .unset, .unset] [(.long vb_), (.int (1 : Int32)), (.ref b3), (.ref b3)])) rfl rfl (hb hby at_33)
  have V7 : Arv Z h7 b3 k3 .long (4 : Int32) [(.long va_), (.long vb_), (.long (0 : Int64)), (.long (0 : Int64))] (.long (0 : Int64)) := (Arv.set Ar6 q6 S6 NN6 HH6 GG6 rfl W7 1 rfl (Nat.le_of_ble_eq_true rfl))
  have Z7 : n0 ≤ h7.size := Nat.le_trans Z5 (Keep.of_wr W7).1
  have N7 := Fr.snoc X7 N5 g_b3
  have K7 : Keep h0 h7 [] := K5.wr W7 (Or.inr sz_b3)
  obtain ⟨cl8, Ar8, q8, S8, NN8, HH8, GG8⟩ := id V7
  have hin8 : ¬ ((2 : Int32) < 0 ∨ cl8.slots.size ≤ ((2 : Int32)).toNatClampNeg) := inb_of S8 ⟨by decide, by decide⟩
  obtain ⟨T9, h9, X9, e9, W9, st9⟩ := stJ X7 hx hZ e7 Ar8 (j := (2 : Int32)) hin8  (g := (mkF m 38 #[.val (.long va_), .second, .val (.long vb_), .second, .val (.long vc_), .second, .val (.long ve_), .second, .val (.long vq), .second, .val (.int vctl), .val (.int kk), .val (.int dd), .unset, .unset, .unset, .unset, .unset] [(.long vc_), (.int (2 : Int32)), (.ref b3), (.ref b3)])) rfl rfl (hb hby at_38)
  have V9 : Arv Z h9 b3 k3 .long (4 : Int32) [(.long va_), (.long vb_), (.long vc_), (.long (0 : Int64))] (.long (0 : Int64)) := (Arv.set Ar8 q8 S8 NN8 HH8 GG8 rfl W9 2 rfl (Nat.le_of_ble_eq_true rfl))
  have Z9 : n0 ≤ h9.size := Nat.le_trans Z7 (Keep.of_wr W9).1
  have N9 := Fr.snoc X9 N7 g_b3
  have K9 : Keep h0 h9 [] := K7.wr W9 (Or.inr sz_b3)
  obtain ⟨cl10, Ar10, q10, S10, NN10, HH10, GG10⟩ := id V9
  have hin10 : ¬ ((3 : Int32) < 0 ∨ cl10.slots.size ≤ ((3 : Int32)).toNatClampNeg) := inb_of S10 ⟨by decide, by decide⟩
  obtain ⟨T11, h11, X11, e11, W11, st11⟩ := stJ X9 hx hZ e9 Ar10 (j := (3 : Int32)) hin10  (g := (mkF m 43 #[.val (.long va_), .second, .val (.long vb_), .second, .val (.long vc_), .second, .val (.long ve_), .second, .val (.long vq), .second, .val (.int vctl), .val (.int kk), .val (.int dd), .unset, .unset, .unset, .unset, .unset] [(.long ve_), (.int (3 : Int32)), (.ref b3), (.ref b3)])) rfl rfl (hb hby at_43)
  have V11 : Arv Z h11 b3 k3 .long (4 : Int32) [(.long va_), (.long vb_), (.long vc_), (.long ve_)] (.long (0 : Int64)) := (Arv.set Ar10 q10 S10 NN10 HH10 GG10 rfl W11 3 rfl (Nat.le_of_ble_eq_true rfl))
  have Z11 : n0 ≤ h11.size := Nat.le_trans Z9 (Keep.of_wr W11).1
  have N11 := Fr.snoc X11 N9 g_b3
  have K11 : Keep h0 h11 [] := K9.wr W11 (Or.inr sz_b3)
  obtain ⟨_, _, ⟨T12, L12, k12, n12⟩, -, X12, ⟨Lc12, hQ12, l12, y12, z12⟩, st12⟩ := Jvm.LawKit.callS X11 hx (y := (⟨"com/example/causeline/causeline/core/FilingPastPinLaw", "cs", "([JII)V"⟩ : MethodName)) hown (mvT hZ (hw _ (List.mem_of_getElem? (i := 1) rfl))) (mvT hZ (hw _ (List.mem_of_getElem? (i := 2) rfl))) (mvT hZ (hw _ (List.mem_of_getElem? (i := 3) rfl))) (mvT hZ (hw _ (List.mem_of_getElem? (i := 4) rfl))) (by decide) (backOf (W := 0) (rmCs01 l Z a0 hw [] b3 k3 va_ vb_ vc_ ve_ h11 n0 Z11 V11 g_b3) hZ (hw _ (List.mem_of_getElem? (i := 4) rfl)) (hw _ (List.mem_of_getElem? (i := 3) rfl)) (by decide) (by decide)) (g := (mkF m 50 #[.val (.long va_), .second, .val (.long vb_), .second, .val (.long vc_), .second, .val (.long ve_), .second, .val (.long vq), .second, .val (.int vctl), .val (.int kk), .val (.int dd), .val (.ref b3), .unset, .unset, .unset, .unset] [(.int (1 : Int32)), (.int (0 : Int32)), (.ref b3)])) rfl (by rw [hml]; rfl) (argsL := [(.ref b3), (.int (0 : Int32)), (.int (1 : Int32))]) (rest := []) (lenOf pd_2 rfl) rfl (by show 2 * 0 + _ ≤ _; exact Nat.le_of_eq rfl) (hb hby at_50) (fun _ _ => ⟨rfl, e11, (by decide : 1 + 0 ≤ _), (by decide : 4 + 0 ≤ _)⟩)
  dsimp only [Pt.U, Pt.locs, Pt.cells, Pt.slots] at X12 l12 y12 z12 st12 hQ12
  obtain rfl : k12 = 1 := y12; obtain rfl : n12 = 4 := z12
  obtain ⟨rfl, N12q, K12q, f12_0⟩ := hQ12
  have N12 : Fr n0 L12 := Eq.mpr (congrArg (Fr n0) l12) (Fr.app N11 N12q)
  have Z12 : n0 ≤ T12.heap.size := Nat.le_trans Z11 K12q.1
  have K12 : Keep h0 T12.heap [] := K11.trans K12q (allS (Or.inr sz_b3) all0)
  obtain ⟨y12_0, hy12_0⟩ : ∃ z : Int64, z = (own_mn va_ vb_) := ⟨_, rfl⟩
  obtain ⟨y12_1, hy12_1⟩ : ∃ z : Int64, z = (own_mx va_ vb_) := ⟨_, rfl⟩
  rw [← hy12_0, ← hy12_1] at f12_0
  obtain ⟨_, _, ⟨T13, L13, k13, n13⟩, -, X13, ⟨Lc13, hQ13, l13, y13, z13⟩, st13⟩ := Jvm.LawKit.callS X12 hx (y := (⟨"com/example/causeline/causeline/core/FilingPastPinLaw", "cs", "([JII)V"⟩ : MethodName)) hown (mvT hZ (hw _ (List.mem_of_getElem? (i := 1) rfl))) (mvT hZ (hw _ (List.mem_of_getElem? (i := 2) rfl))) (mvT hZ (hw _ (List.mem_of_getElem? (i := 3) rfl))) (mvT hZ (hw _ (List.mem_of_getElem? (i := 4) rfl))) (by decide) (backOf (W := 0) (rmCs23 l Z a0 hw [] b3 k3 y12_0 y12_1 vc_ ve_ T12.heap n0 Z12 f12_0 g_b3) hZ (hw _ (List.mem_of_getElem? (i := 4) rfl)) (hw _ (List.mem_of_getElem? (i := 3) rfl)) (by decide) (by decide)) (g := (mkF m 57 #[.val (.long va_), .second, .val (.long vb_), .second, .val (.long vc_), .second, .val (.long ve_), .second, .val (.long vq), .second, .val (.int vctl), .val (.int kk), .val (.int dd), .val (.ref b3), .unset, .unset, .unset, .unset] [(.int (3 : Int32)), (.int (2 : Int32)), (.ref b3)])) rfl (by rw [hml]; rfl) (argsL := [(.ref b3), (.int (2 : Int32)), (.int (3 : Int32))]) (rest := []) (lenOf pd_2 rfl) rfl (by show 2 * 0 + _ ≤ _; exact Nat.le_of_eq rfl) (hb hby at_57) (fun _ _ => ⟨rfl, rfl, (by decide : 1 + 0 ≤ _), (by decide : 4 + 0 ≤ _)⟩)
  dsimp only [Pt.U, Pt.locs, Pt.cells, Pt.slots] at X13 l13 y13 z13 st13 hQ13
  obtain rfl : k13 = 1 := y13; obtain rfl : n13 = 4 := z13
  obtain ⟨rfl, N13q, K13q, f13_0⟩ := hQ13
  have N13 : Fr n0 L13 := Eq.mpr (congrArg (Fr n0) l13) (Fr.app N12 N13q)
  have Z13 : n0 ≤ T13.heap.size := Nat.le_trans Z12 K13q.1
  have K13 : Keep h0 T13.heap [] := K12.trans K13q (allS (Or.inr sz_b3) all0)
  obtain ⟨y13_2, hy13_2⟩ : ∃ z : Int64, z = (own_mn vc_ ve_) := ⟨_, rfl⟩
  obtain ⟨y13_3, hy13_3⟩ : ∃ z : Int64, z = (own_mx vc_ ve_) := ⟨_, rfl⟩
  rw [← hy13_2, ← hy13_3] at f13_0
  obtain ⟨_, _, ⟨T14, L14, k14, n14⟩, -, X14, ⟨Lc14, hQ14, l14, y14, z14⟩, st14⟩ := Jvm.LawKit.callS X13 hx (y := (⟨"com/example/causeline/causeline/core/FilingPastPinLaw", "cs", "([JII)V"⟩ : MethodName)) hown (mvT hZ (hw _ (List.mem_of_getElem? (i := 1) rfl))) (mvT hZ (hw _ (List.mem_of_getElem? (i := 2) rfl))) (mvT hZ (hw _ (List.mem_of_getElem? (i := 3) rfl))) (mvT hZ (hw _ (List.mem_of_getElem? (i := 4) rfl))) (by decide) (backOf (W := 0) (rmCs02 l Z a0 hw [] b3 k3 y12_0 y12_1 y13_2 y13_3 T13.heap n0 Z13 f13_0 g_b3) hZ (hw _ (List.mem_of_getElem? (i := 4) rfl)) (hw _ (List.mem_of_getElem? (i := 3) rfl)) (by decide) (by decide)) (g := (mkF m 64 #[.val (.long va_), .second, .val (.long vb_), .second, .val (.long vc_), .second, .val (.long ve_), .second, .val (.long vq), .second, .val (.int vctl), .val (.int kk), .val (.int dd), .val (.ref b3), .unset, .unset, .unset, .unset] [(.int (2 : Int32)), (.int (0 : Int32)), (.ref b3)])) rfl (by rw [hml]; rfl) (argsL := [(.ref b3), (.int (0 : Int32)), (.int (2 : Int32))]) (rest := []) (lenOf pd_2 rfl) rfl (by show 2 * 0 + _ ≤ _; exact Nat.le_of_eq rfl) (hb hby at_64) (fun _ _ => ⟨rfl, rfl, (by decide : 1 + 0 ≤ _), (by decide : 4 + 0 ≤ _)⟩)
  dsimp only [Pt.U, Pt.locs, Pt.cells, Pt.slots] at X14 l14 y14 z14 st14 hQ14
  obtain rfl : k14 = 1 := y14; obtain rfl : n14 = 4 := z14
  obtain ⟨rfl, N14q, K14q, f14_0⟩ := hQ14
  have N14 : Fr n0 L14 := Eq.mpr (congrArg (Fr n0) l14) (Fr.app N13 N14q)
  have Z14 : n0 ≤ T14.heap.size := Nat.le_trans Z13 K14q.1
  have K14 : Keep h0 T14.heap [] := K13.trans K14q (allS (Or.inr sz_b3) all0)
  obtain ⟨y14_0, hy14_0⟩ : ∃ z : Int64, z = (own_mn y12_0 y13_2) := ⟨_, rfl⟩
  obtain ⟨y14_2, hy14_2⟩ : ∃ z : Int64, z = (own_mx y12_0 y13_2) := ⟨_, rfl⟩
  rw [← hy14_0, ← hy14_2] at f14_0
  obtain ⟨_, _, ⟨T15, L15, k15, n15⟩, -, X15, ⟨Lc15, hQ15, l15, y15, z15⟩, st15⟩ := Jvm.LawKit.callS X14 hx (y := (⟨"com/example/causeline/causeline/core/FilingPastPinLaw", "cs", "([JII)V"⟩ : MethodName)) hown (mvT hZ (hw _ (List.mem_of_getElem? (i := 1) rfl))) (mvT hZ (hw _ (List.mem_of_getElem? (i := 2) rfl))) (mvT hZ (hw _ (List.mem_of_getElem? (i := 3) rfl))) (mvT hZ (hw _ (List.mem_of_getElem? (i := 4) rfl))) (by decide) (backOf (W := 0) (rmCs13 l Z a0 hw [] b3 k3 y14_0 y12_1 y14_2 y13_3 T14.heap n0 Z14 f14_0 g_b3) hZ (hw _ (List.mem_of_getElem? (i := 4) rfl)) (hw _ (List.mem_of_getElem? (i := 3) rfl)) (by decide) (by decide)) (g := (mkF m 71 #[.val (.long va_), .second, .val (.long vb_), .second, .val (.long vc_), .second, .val (.long ve_), .second, .val (.long vq), .second, .val (.int vctl), .val (.int kk), .val (.int dd), .val (.ref b3), .unset, .unset, .unset, .unset] [(.int (3 : Int32)), (.int (1 : Int32)), (.ref b3)])) rfl (by rw [hml]; rfl) (argsL := [(.ref b3), (.int (1 : Int32)), (.int (3 : Int32))]) (rest := []) (lenOf pd_2 rfl) rfl (by show 2 * 0 + _ ≤ _; exact Nat.le_of_eq rfl) (hb hby at_71) (fun _ _ => ⟨rfl, rfl, (by decide : 1 + 0 ≤ _), (by decide : 4 + 0 ≤ _)⟩)
  dsimp only [Pt.U, Pt.locs, Pt.cells, Pt.slots] at X15 l15 y15 z15 st15 hQ15
  obtain rfl : k15 = 1 := y15; obtain rfl : n15 = 4 := z15
  obtain ⟨rfl, N15q, K15q, f15_0⟩ := hQ15
  have N15 : Fr n0 L15 := Eq.mpr (congrArg (Fr n0) l15) (Fr.app N14 N15q)
  have Z15 : n0 ≤ T15.heap.size := Nat.le_trans Z14 K15q.1
  have K15 : Keep h0 T15.heap [] := K14.trans K15q (allS (Or.inr sz_b3) all0)
  obtain ⟨y15_1, hy15_1⟩ : ∃ z : Int64, z = (own_mn y12_1 y13_3) := ⟨_, rfl⟩
  obtain ⟨y15_3, hy15_3⟩ : ∃ z : Int64, z = (own_mx y12_1 y13_3) := ⟨_, rfl⟩
  rw [← hy15_1, ← hy15_3] at f15_0
  obtain ⟨_, _, ⟨T16, L16, k16, n16⟩, -, X16, ⟨Lc16, hQ16, l16, y16, z16⟩, st16⟩ := Jvm.LawKit.callS X15 hx (y := (⟨"com/example/causeline/causeline/core/FilingPastPinLaw", "cs", "([JII)V"⟩ : MethodName)) hown (mvT hZ (hw _ (List.mem_of_getElem? (i := 1) rfl))) (mvT hZ (hw _ (List.mem_of_getElem? (i := 2) rfl))) (mvT hZ (hw _ (List.mem_of_getElem? (i := 3) rfl))) (mvT hZ (hw _ (List.mem_of_getElem? (i := 4) rfl))) (by decide) (backOf (W := 0) (rmCs12 l Z a0 hw [] b3 k3 y14_0 y15_1 y14_2 y15_3 T15.heap n0 Z15 f15_0 g_b3) hZ (hw _ (List.mem_of_getElem? (i := 4) rfl)) (hw _ (List.mem_of_getElem? (i := 3) rfl)) (by decide) (by decide)) (g := (mkF m 78 #[.val (.long va_), .second, .val (.long vb_), .second, .val (.long vc_), .second, .val (.long ve_), .second, .val (.long vq), .second, .val (.int vctl), .val (.int kk), .val (.int dd), .val (.ref b3), .unset, .unset, .unset, .unset] [(.int (2 : Int32)), (.int (1 : Int32)), (.ref b3)])) rfl (by rw [hml]; rfl) (argsL := [(.ref b3), (.int (1 : Int32)), (.int (2 : Int32))]) (rest := []) (lenOf pd_2 rfl) rfl (by show 2 * 0 + _ ≤ _; exact Nat.le_of_eq rfl) (hb hby at_78) (fun _ _ => ⟨rfl, rfl, (by decide : 1 + 0 ≤ _), (by decide : 4 + 0 ≤ _)⟩)
  dsimp only [Pt.U, Pt.locs, Pt.cells, Pt.slots] at X16 l16 y16 z16 st16 hQ16
  obtain rfl : k16 = 1 := y16; obtain rfl : n16 = 4 := z16
  obtain ⟨rfl, N16q, K16q, f16_0⟩ := hQ16
  have N16 : Fr n0 L16 := Eq.mpr (congrArg (Fr n0) l16) (Fr.app N15 N16q)
  have Z16 : n0 ≤ T16.heap.size := Nat.le_trans Z15 K16q.1
  have K16 : Keep h0 T16.heap [] := K15.trans K16q (allS (Or.inr sz_b3) all0)
  obtain ⟨y16_1, hy16_1⟩ : ∃ z : Int64, z = (own_mn y15_1 y14_2) := ⟨_, rfl⟩
  obtain ⟨y16_2, hy16_2⟩ : ∃ z : Int64, z = (own_mx y15_1 y14_2) := ⟨_, rfl⟩
  rw [← hy16_1, ← hy16_2] at f16_0
  obtain ⟨s01, s12, s23⟩ := own_sorted hy12_0 hy12_1 hy13_2 hy13_3 hy14_0 hy14_2 hy15_1 hy15_3 hy16_1 hy16_2
  obtain ⟨T17, h17, X17, e17, E17, A17, D17, -, st17⟩ := newO X16 hx hZ hown (hw _ (List.mem_of_getElem? (i := 5) rfl)) (hw _ (List.mem_of_getElem? (i := 6) rfl)) (hw _ (List.mem_of_getElem? (i := 7) rfl)) rfl (g := (mkF m 81 #[.val (.long va_), .second, .val (.long vb_), .second, .val (.long vc_), .second, .val (.long ve_), .second, .val (.long vq), .second, .val (.int vctl), .val (.int kk), .val (.int dd), .val (.ref b3), .unset, .unset, .unset, .unset] [])) rfl (hb hby at_81) (by decide) (by decide)
  obtain ⟨b17, g17⟩ : ∃ z, z = T16.heap.size := ⟨_, rfl⟩
  rw [← g17] at A17 D17 st17
  have ne18 : b3 ≠ b17 := Nat.ne_of_lt (Nat.lt_of_lt_of_le f16_0.lt (Nat.le_of_eq g17.symm))
  have c19 : Arv Z h17 b3 k3 .long (4 : Int32) [(.long y14_0), (.long y16_1), (.long y16_2), (.long y15_3)] (.long (0 : Int64)) := f16_0.ext E17
  have g_b17 : n0 ≤ b17 := Nat.le_trans Z16 (Nat.le_of_eq g17.symm)
  have sz_b17 : h0.size ≤ b17 := Nat.le_trans K16.1 (Nat.le_of_eq g17.symm)
  have Z17 : n0 ≤ h17.size := Nat.le_trans Z16 E17.1
  have K17 : Keep h0 h17 [] := K16.ext E17
  have F17_numbers : Fld Z h17 b17 "com/example/causeline/causeline/core/Filing" "numbers" "[J" .null := D17 (Or.inl (hw _ (List.mem_of_getElem? (i := 31) rfl))) (ty := (.array .long)) (by decide)
  have F17_orders : Fld Z h17 b17 "com/example/causeline/causeline/core/Filing" "orders" "[J" .null := D17 (Or.inl (hw _ (List.mem_of_getElem? (i := 33) rfl))) (ty := (.array .long)) (by decide)
  have F17_table : Fld Z h17 b17 "com/example/causeline/causeline/core/Filing" "table" "Lcom/example/causeline/causeline/core/CopyTable;" .null := D17 (Or.inr (hw _ (List.mem_of_getElem? (i := 35) rfl))) (ty := (.object "com/example/causeline/causeline/core/CopyTable")) (by decide)
  have F17_end : Fld Z h17 b17 "com/example/causeline/causeline/core/Filing" "end" "I" (.int (0 : Int32)) := D17 (Or.inl (hw _ (List.mem_of_getElem? (i := 67) rfl))) (ty := .int) (by decide)
  have F17_first : Fld Z h17 b17 "com/example/causeline/causeline/core/Filing" "first" "I" (.int (0 : Int32)) := D17 (Or.inl (hw _ (List.mem_of_getElem? (i := 73) rfl))) (ty := .int) (by decide)
  obtain ⟨T20, h20, X20, e20, E20, A20, D20, -, st20⟩ := newO X17 hx hZ hown (hw _ (List.mem_of_getElem? (i := 8) rfl)) (hw _ (List.mem_of_getElem? (i := 9) rfl)) (hw _ (List.mem_of_getElem? (i := 10) rfl)) e17 (g := (mkF m 85 #[.val (.long va_), .second, .val (.long vb_), .second, .val (.long vc_), .second, .val (.long ve_), .second, .val (.long vq), .second, .val (.int vctl), .val (.int kk), .val (.int dd), .val (.ref b3), .unset, .unset, .unset, .unset] [(.ref b17), (.ref b17)])) rfl (hb hby at_85) (by decide) (by decide)
  obtain ⟨b20, g20⟩ : ∃ z, z = h17.size := ⟨_, rfl⟩
  rw [← g20] at A20 D20 st20
  have ne21 : b3 ≠ b20 := Nat.ne_of_lt (Nat.lt_of_lt_of_le c19.lt (Nat.le_of_eq g20.symm))
  have ne22 : b17 ≠ b20 := Nat.ne_of_lt (Nat.lt_of_lt_of_le A17.lt (Nat.le_of_eq g20.symm))
  have c23 : Arv Z h20 b3 k3 .long (4 : Int32) [(.long y14_0), (.long y16_1), (.long y16_2), (.long y15_3)] (.long (0 : Int64)) := c19.ext E20
  have c24 : Exa Z h20 b17 "com/example/causeline/causeline/core/Filing" := A17.ext E20
  have c25 : Fld Z h20 b17 "com/example/causeline/causeline/core/Filing" "numbers" "[J" .null := F17_numbers.ext E20
  have c26 : Fld Z h20 b17 "com/example/causeline/causeline/core/Filing" "orders" "[J" .null := F17_orders.ext E20
  have c27 : Fld Z h20 b17 "com/example/causeline/causeline/core/Filing" "table" "Lcom/example/causeline/causeline/core/CopyTable;" .null := F17_table.ext E20
  have c28 : Fld Z h20 b17 "com/example/causeline/causeline/core/Filing" "end" "I" (.int (0 : Int32)) := F17_end.ext E20
  have c29 : Fld Z h20 b17 "com/example/causeline/causeline/core/Filing" "first" "I" (.int (0 : Int32)) := F17_first.ext E20
  have g_b20 : n0 ≤ b20 := Nat.le_trans Z17 (Nat.le_of_eq g20.symm)
  have sz_b20 : h0.size ≤ b20 := Nat.le_trans K17.1 (Nat.le_of_eq g20.symm)
  have Z20 : n0 ≤ h20.size := Nat.le_trans Z17 E20.1
  have K20 : Keep h0 h20 [] := K17.ext E20
  have F20_blocks : Fld Z h20 b20 "com/example/causeline/causeline/core/CopyTable" "blocks" "[[Lcom/example/causeline/causeline/core/Waiting;" .null := D20 (Or.inl (hw _ (List.mem_of_getElem? (i := 20) rfl))) (ty := (.array (.array (.object "com/example/causeline/causeline/core/Waiting")))) (by decide)
  have F20_counts : Fld Z h20 b20 "com/example/causeline/causeline/core/CopyTable" "counts" "[I" .null := D20 (Or.inl (hw _ (List.mem_of_getElem? (i := 23) rfl))) (ty := (.array .int)) (by decide)
  obtain ⟨_, _, ⟨T30, L30, k30, n30⟩, -, X30, ⟨Lc30, hQ30, l30, y30, z30⟩, st30⟩ := X20.specialBack hx (y := (⟨"com/example/causeline/causeline/core/CopyTable", "<init>", "()V"⟩ : MethodName)) rfl hown (mvT hZ (hw _ (List.mem_of_getElem? (i := 11) rfl))) (mvT hZ (hw _ (List.mem_of_getElem? (i := 12) rfl))) (mvT hZ (hw _ (List.mem_of_getElem? (i := 13) rfl))) (by decide) (backOf (W := 3) (rm2 l Z a0 hw [] b20  h20 n0 Z20 A20 F20_blocks F20_counts g_b20) hZ (hw _ (List.mem_of_getElem? (i := 13) rfl)) (hw _ (List.mem_of_getElem? (i := 10) rfl)) (by decide) (by decide)) (g := (mkF m 89 #[.val (.long va_), .second, .val (.long vb_), .second, .val (.long vc_), .second, .val (.long ve_), .second, .val (.long vq), .second, .val (.int vctl), .val (.int kk), .val (.int dd), .val (.ref b3), .unset, .unset, .unset, .unset] [(.ref b20), (.ref b20), (.ref b17), (.ref b17)])) rfl (by rw [hml]; rfl) (Steps.refl _) (a := b20) (argsL := []) (rest := [(.ref b20), (.ref b17), (.ref b17)]) (lenOf pd_1 rfl) rfl (by show 2 * 0 + _ ≤ _; exact Nat.le_of_eq rfl) (hb hby at_89) (fun _ _ => ⟨rfl, e20, (by decide : 3 + 2 ≤ _), (by decide : 13 + 8 ≤ _)⟩)
  dsimp only [Pt.U, Pt.locs, Pt.cells, Pt.slots] at X30 l30 y30 z30 st30 hQ30
  obtain rfl : k30 = 5 := y30; obtain rfl : n30 = 21 := z30
  obtain ⟨rfl, N30q, K30q⟩ := hQ30
  have N30 : Fr n0 L30 := Eq.mpr (congrArg (Fr n0) l30) (Fr.app N16 N30q)
  have Z30 : n0 ≤ T30.heap.size := Nat.le_trans Z20 K30q.1
  have c31 : Arv Z T30.heap b3 k3 .long (4 : Int32) [(.long y14_0), (.long y16_1), (.long y16_2), (.long y15_3)] (.long (0 : Int64)) := c23.keep K30q (ninS ne21 nin0)
  have c32 : Exa Z T30.heap b17 "com/example/causeline/causeline/core/Filing" := c24.keep K30q
  have c33 : Fld Z T30.heap b17 "com/example/causeline/causeline/core/Filing" "numbers" "[J" .null := c25.keep K30q (ninS ne22 nin0)
  have c34 : Fld Z T30.heap b17 "com/example/causeline/causeline/core/Filing" "orders" "[J" .null := c26.keep K30q (ninS ne22 nin0)
  have c35 : Fld Z T30.heap b17 "com/example/causeline/causeline/core/Filing" "table" "Lcom/example/causeline/causeline/core/CopyTable;" .null := c27.keep K30q (ninS ne22 nin0)
  have c36 : Fld Z T30.heap b17 "com/example/causeline/causeline/core/Filing" "end" "I" (.int (0 : Int32)) := c28.keep K30q (ninS ne22 nin0)
  have c37 : Fld Z T30.heap b17 "com/example/causeline/causeline/core/Filing" "first" "I" (.int (0 : Int32)) := c29.keep K30q (ninS ne22 nin0)
  have c38 : Exa Z T30.heap b20 "com/example/causeline/causeline/core/CopyTable" := A20.keep K30q
  have K30 : Keep h0 T30.heap [] := K20.trans K30q (allS (Or.inr sz_b20) all0)
  obtain ⟨_, _, ⟨T39, L39, k39, n39⟩, -, X39, ⟨Lc39, hQ39, l39, y39, z39⟩, st39⟩ := X30.specialBack hx (y := (⟨"com/example/causeline/causeline/core/Filing", "<init>", "(Lcom/example/causeline/causeline/core/CopyTable;)V"⟩ : MethodName)) rfl hown (mvT hZ (hw _ (List.mem_of_getElem? (i := 24) rfl))) (mvT hZ (hw _ (List.mem_of_getElem? (i := 25) rfl))) (mvT hZ (hw _ (List.mem_of_getElem? (i := 26) rfl))) (by decide) (backOf (W := 1) (rm4 l Z a0 hw [] b17 b20 vN T30.heap n0 Z30 c32 c33 c34 c35 c37 c36 (own_sta_keep S_N K30) g_b17) hZ (hw _ (List.mem_of_getElem? (i := 26) rfl)) (hw _ (List.mem_of_getElem? (i := 7) rfl)) (by decide) (by decide)) (g := (mkF m 92 #[.val (.long va_), .second, .val (.long vb_), .second, .val (.long vc_), .second, .val (.long ve_), .second, .val (.long vq), .second, .val (.int vctl), .val (.int kk), .val (.int dd), .val (.ref b3), .unset, .unset, .unset, .unset] [(.ref b20), (.ref b17), (.ref b17)])) rfl (by rw [hml]; rfl) (Steps.refl _) (a := b17) (argsL := [(.ref b20)]) (rest := [(.ref b17)]) (lenOf pd_3 rfl) rfl (by show 2 * 0 + _ ≤ _; exact Nat.le_of_eq rfl) (hb hby at_92) (fun _ _ => ⟨rfl, rfl, (by decide : 5 + 0 ≤ _), (by decide : 21 + 0 ≤ _)⟩)
  dsimp only [Pt.U, Pt.locs, Pt.cells, Pt.slots] at X39 l39 y39 z39 st39 hQ39
  obtain rfl : k39 = 5 := y39; obtain rfl : n39 = 21 := z39
  obtain ⟨rfl, N39q, K39q, f39_0, f39_1, f39_2, f39_3, f39_4⟩ := hQ39
  have N39 : Fr n0 L39 := Eq.mpr (congrArg (Fr n0) l39) (Fr.app N30 N39q)
  have Z39 : n0 ≤ T39.heap.size := Nat.le_trans Z30 K39q.1
  have c40 : Arv Z T39.heap b3 k3 .long (4 : Int32) [(.long y14_0), (.long y16_1), (.long y16_2), (.long y15_3)] (.long (0 : Int64)) := c31.keep K39q (ninS ne18 nin0)
  have c41 : Exa Z T39.heap b17 "com/example/causeline/causeline/core/Filing" := c32.keep K39q
  have c42 : Exa Z T39.heap b20 "com/example/causeline/causeline/core/CopyTable" := c38.keep K39q
  have K39 : Keep h0 T39.heap [] := K30.trans K39q (allS (Or.inr sz_b17) all0)
  obtain ⟨T43, h43, X43, e43, E43, A43, D43, -, st43⟩ := newO X39 hx hZ hown (hw _ (List.mem_of_getElem? (i := 36) rfl)) (hw _ (List.mem_of_getElem? (i := 37) rfl)) (hw _ (List.mem_of_getElem? (i := 38) rfl)) rfl (g := (mkF m 97 #[.val (.long va_), .second, .val (.long vb_), .second, .val (.long vc_), .second, .val (.long ve_), .second, .val (.long vq), .second, .val (.int vctl), .val (.int kk), .val (.int dd), .val (.ref b3), .val (.ref b17), .unset, .unset, .unset] [])) rfl (hb hby at_97) (by decide) (by decide)
  obtain ⟨b43, g43⟩ : ∃ z, z = T39.heap.size := ⟨_, rfl⟩
  rw [← g43] at A43 D43 st43
  have ne44 : b3 ≠ b43 := Nat.ne_of_lt (Nat.lt_of_lt_of_le c40.lt (Nat.le_of_eq g43.symm))
  have ne45 : b20 ≠ b43 := Nat.ne_of_lt (Nat.lt_of_lt_of_le c42.lt (Nat.le_of_eq g43.symm))
  have ne46 : b17 ≠ b43 := Nat.ne_of_lt (Nat.lt_of_lt_of_le f39_0.lt (Nat.le_of_eq g43.symm))
  have c47 : Arv Z h43 b3 k3 .long (4 : Int32) [(.long y14_0), (.long y16_1), (.long y16_2), (.long y15_3)] (.long (0 : Int64)) := c40.ext E43
  have c48 : Exa Z h43 b20 "com/example/causeline/causeline/core/CopyTable" := c42.ext E43
  have c49 : Exa Z h43 b17 "com/example/causeline/causeline/core/Filing" := f39_0.ext E43
  have c50 : Fld Z h43 b17 "com/example/causeline/causeline/core/Filing" "numbers" "[J" (.ref vN) := f39_1.ext E43
  have c51 : Fld Z h43 b17 "com/example/causeline/causeline/core/Filing" "orders" "[J" (.ref vN) := f39_2.ext E43
  have c52 : Fld Z h43 b17 "com/example/causeline/causeline/core/Filing" "first" "I" (.int (0 : Int32)) := f39_3.ext E43
  have c53 : Fld Z h43 b17 "com/example/causeline/causeline/core/Filing" "end" "I" (.int (0 : Int32)) := f39_4.ext E43
  have g_b43 : n0 ≤ b43 := Nat.le_trans Z39 (Nat.le_of_eq g43.symm)
  have sz_b43 : h0.size ≤ b43 := Nat.le_trans K39.1 (Nat.le_of_eq g43.symm)
  have Z43 : n0 ≤ h43.size := Nat.le_trans Z39 E43.1
  have K43 : Keep h0 h43 [] := K39.ext E43
  have F43_alarm : Fld Z h43 b43 "com/example/causeline/causeline/core/Waiting" "alarm" "J" (.long (0 : Int64)) := D43 (Or.inl (hw _ (List.mem_of_getElem? (i := 46) rfl))) (ty := .long) (by decide)
  have F43_message : Fld Z h43 b43 "com/example/causeline/causeline/core/Waiting" "message" "Lcom/example/causeline/causeline/core/Message;" .null := D43 (Or.inr (hw _ (List.mem_of_getElem? (i := 48) rfl))) (ty := (.object "com/example/causeline/causeline/core/Message")) (by decide)
  have F43_arrived : Fld Z h43 b43 "com/example/causeline/causeline/core/Waiting" "arrived" "J" (.long (0 : Int64)) := D43 (Or.inr (hw _ (List.mem_of_getElem? (i := 50) rfl))) (ty := .long) (by decide)
  have F43_sent : Fld Z h43 b43 "com/example/causeline/causeline/core/Waiting" "sent" "J" (.long (0 : Int64)) := D43 (Or.inr (hw _ (List.mem_of_getElem? (i := 52) rfl))) (ty := .long) (by decide)
  have F43_deadline : Fld Z h43 b43 "com/example/causeline/causeline/core/Waiting" "deadline" "J" (.long (0 : Int64)) := D43 (Or.inr (hw _ (List.mem_of_getElem? (i := 54) rfl))) (ty := .long) (by decide)
  have F43_order : Fld Z h43 b43 "com/example/causeline/causeline/core/Waiting" "order" "J" (.long (0 : Int64)) := D43 (Or.inr (hw _ (List.mem_of_getElem? (i := 56) rfl))) (ty := .long) (by decide)
  have F43_latest : Fld Z h43 b43 "com/example/causeline/causeline/core/Waiting" "latest" "J" (.long (0 : Int64)) := D43 (Or.inl (hw _ (List.mem_of_getElem? (i := 58) rfl))) (ty := .long) (by decide)
  have F43_namedDone : Fld Z h43 b43 "com/example/causeline/causeline/core/Waiting" "namedDone" "I" (.int (0 : Int32)) := D43 (Or.inl (hw _ (List.mem_of_getElem? (i := 60) rfl))) (ty := .int) (by decide)
  obtain ⟨_, _, ⟨T54, L54, k54, n54⟩, -, X54, ⟨Lc54, hQ54, l54, y54, z54⟩, st54⟩ := X43.specialBack hx (y := (⟨"com/example/causeline/causeline/core/Waiting", "<init>", "(Lcom/example/causeline/causeline/core/Message;JJJJI)V"⟩ : MethodName)) rfl hown (mvT hZ (hw _ (List.mem_of_getElem? (i := 40) rfl))) (mvT hZ (hw _ (List.mem_of_getElem? (i := 41) rfl))) (mvT hZ (hw _ (List.mem_of_getElem? (i := 42) rfl))) (by decide) (backOf (W := 1) (rm5 l Z a0 hw [] b43 (0 : Int64) (0 : Int64) (0 : Int64) (7 : Int64) (0 : Int32)  h43 n0 Z43 A43 F43_alarm F43_message F43_arrived F43_sent F43_deadline F43_order F43_latest F43_namedDone g_b43) hZ (hw _ (List.mem_of_getElem? (i := 42) rfl)) (hw _ (List.mem_of_getElem? (i := 38) rfl)) (by decide) (by decide)) (g := (mkF m 109 #[.val (.long va_), .second, .val (.long vb_), .second, .val (.long vc_), .second, .val (.long ve_), .second, .val (.long vq), .second, .val (.int vctl), .val (.int kk), .val (.int dd), .val (.ref b3), .val (.ref b17), .unset, .unset, .unset] [(.int (0 : Int32)), (.long (7 : Int64)), (.long (0 : Int64)), (.long (0 : Int64)), (.long (0 : Int64)), .null, (.ref b43), (.ref b43)])) rfl (by rw [hml]; rfl) (Steps.refl _) (a := b43) (argsL := [.null, (.long (0 : Int64)), (.long (0 : Int64)), (.long (0 : Int64)), (.long (7 : Int64)), (.int (0 : Int32))]) (rest := [(.ref b43)]) (lenOf pd_4 rfl) rfl (by show 2 * 0 + _ ≤ _; exact Nat.le_of_eq rfl) (hb hby at_109) (fun _ _ => ⟨rfl, e43, (by decide : 6 + 0 ≤ _), (by decide : 33 + 0 ≤ _)⟩)
  dsimp only [Pt.U, Pt.locs, Pt.cells, Pt.slots] at X54 l54 y54 z54 st54 hQ54
  obtain rfl : k54 = 6 := y54; obtain rfl : n54 = 33 := z54
  obtain ⟨rfl, N54q, K54q, f54_0⟩ := hQ54
  have N54 : Fr n0 L54 := Eq.mpr (congrArg (Fr n0) l54) (Fr.app N39 N54q)
  have Z54 : n0 ≤ T54.heap.size := Nat.le_trans Z43 K54q.1
  have c55 : Arv Z T54.heap b3 k3 .long (4 : Int32) [(.long y14_0), (.long y16_1), (.long y16_2), (.long y15_3)] (.long (0 : Int64)) := c47.keep K54q (ninS ne44 nin0)
  have c56 : Exa Z T54.heap b20 "com/example/causeline/causeline/core/CopyTable" := c48.keep K54q
  have c57 : Exa Z T54.heap b17 "com/example/causeline/causeline/core/Filing" := c49.keep K54q
  have c58 : Fld Z T54.heap b17 "com/example/causeline/causeline/core/Filing" "numbers" "[J" (.ref vN) := c50.keep K54q (ninS ne46 nin0)
  have c59 : Fld Z T54.heap b17 "com/example/causeline/causeline/core/Filing" "orders" "[J" (.ref vN) := c51.keep K54q (ninS ne46 nin0)
  have c60 : Fld Z T54.heap b17 "com/example/causeline/causeline/core/Filing" "first" "I" (.int (0 : Int32)) := c52.keep K54q (ninS ne46 nin0)
  have c61 : Fld Z T54.heap b17 "com/example/causeline/causeline/core/Filing" "end" "I" (.int (0 : Int32)) := c53.keep K54q (ninS ne46 nin0)
  have c62 : Exa Z T54.heap b43 "com/example/causeline/causeline/core/Waiting" := A43.keep K54q
  have K54 : Keep h0 T54.heap [] := K43.trans K54q (allS (Or.inr sz_b43) all0)
  have pre63 : ∀ t, Steps p.tables e below (T54.setTop (mkF m 114 #[.val (.long va_), .second, .val (.long vb_), .second, .val (.long vc_), .second, .val (.long ve_), .second, .val (.long vq), .second, .val (.int vctl), .val (.int kk), .val (.int dd), .val (.ref b3), .val (.ref b17), .val (.ref b43), .unset, .unset] [])) t → Steps p.tables e below (s₁.setTop (entryFrame m #[(.long va_), (.long vb_), (.long vc_), (.long ve_), (.long vq), (.int vctl)] maxLocals)) t := by
    intro t kt
    refine pre2 t ?_
    show Steps p.tables e below (s₁.setTop (mkF m 23 #[.val (.long va_), .second, .val (.long vb_), .second, .val (.long vc_), .second, .val (.long ve_), .second, .val (.long vq), .second, .val (.int vctl), .val (.int kk), .val (.int dd), .unset, .unset, .unset, .unset, .unset] [])) _
    refine XS.iconst X0.here hx rfl (hb hby at_23) ?_
    show Steps p.tables e below (s₁.setTop (mkF m 24 #[.val (.long va_), .second, .val (.long vb_), .second, .val (.long vc_), .second, .val (.long ve_), .second, .val (.long vq), .second, .val (.int vctl), .val (.int kk), .val (.int dd), .unset, .unset, .unset, .unset, .unset] [(.int (4 : Int32))])) _
    refine st3 _ ?_
    show Steps p.tables e below (T3.setTop (mkF m 26 #[.val (.long va_), .second, .val (.long vb_), .second, .val (.long vc_), .second, .val (.long ve_), .second, .val (.long vq), .second, .val (.int vctl), .val (.int kk), .val (.int dd), .unset, .unset, .unset, .unset, .unset] [(.ref b3)])) _
    refine XS.dup X3.here hx rfl (hb hby at_26) rfl rfl ?_
    show Steps p.tables e below (T3.setTop (mkF m 27 #[.val (.long va_), .second, .val (.long vb_), .second, .val (.long vc_), .second, .val (.long ve_), .second, .val (.long vq), .second, .val (.int vctl), .val (.int kk), .val (.int dd), .unset, .unset, .unset, .unset, .unset] [(.ref b3), (.ref b3)])) _
    refine XS.iconst X3.here hx rfl (hb hby at_27) ?_
    show Steps p.tables e below (T3.setTop (mkF m 28 #[.val (.long va_), .second, .val (.long vb_), .second, .val (.long vc_), .second, .val (.long ve_), .second, .val (.long vq), .second, .val (.int vctl), .val (.int kk), .val (.int dd), .unset, .unset, .unset, .unset, .unset] [(.int (0 : Int32)), (.ref b3), (.ref b3)])) _
    refine XS.lloadN X3.here hx rfl (hb hby at_28) rfl ?_
    show Steps p.tables e below (T3.setTop (mkF m 29 #[.val (.long va_), .second, .val (.long vb_), .second, .val (.long vc_), .second, .val (.long ve_), .second, .val (.long vq), .second, .val (.int vctl), .val (.int kk), .val (.int dd), .unset, .unset, .unset, .unset, .unset] [(.long va_), (.int (0 : Int32)), (.ref b3), (.ref b3)])) _
    refine st5 _ ?_
    show Steps p.tables e below (T5.setTop (mkF m 30 #[.val (.long va_), .second, .val (.long vb_), .second, .val (.long vc_), .second, .val (.long ve_), .second, .val (.long vq), .second, .val (.int vctl), .val (.int kk), .val (.int dd), .unset, .unset, .unset, .unset, .unset] [(.ref b3)])) _
    refine XS.dup X5.here hx rfl (hb hby at_30) rfl rfl ?_
    show Steps p.tables e below (T5.setTop (mkF m 31 #[.val (.long va_), .second, .val (.long vb_), .second, .val (.long vc_), .second, .val (.long ve_), .second, .val (.long vq), .second, .val (.int vctl), .val (.int kk), .val (.int dd), .unset, .unset, .unset, .unset, .unset] [(.ref b3), (.ref b3)])) _
    refine XS.iconst X5.here hx rfl (hb hby at_31) ?_
    show Steps p.tables e below (T5.setTop (mkF m 32 #[.val (.long va_), .second, .val (.long vb_), .second, .val (.long vc_), .second, .val (.long ve_), .second, .val (.long vq), .second, .val (.int vctl), .val (.int kk), .val (.int dd), .unset, .unset, .unset, .unset, .unset] [(.int (1 : Int32)), (.ref b3), (.ref b3)])) _
    refine XS.lloadN X5.here hx rfl (hb hby at_32) rfl ?_
    show Steps p.tables e below (T5.setTop (mkF m 33 #[.val (.long va_), .second, .val (.long vb_), .second, .val (.long vc_), .second, .val (.long ve_), .second, .val (.long vq), .second, .val (.int vctl), .val (.int kk), .val (.int dd), .unset, .unset, .unset, .unset, .unset] [(.long vb_), (.int (1 : Int32)), (.ref b3), (.ref b3)])) _
    refine st7 _ ?_
    show Steps p.tables e below (T7.setTop (mkF m 34 #[.val (.long va_), .second, .val (.long vb_), .second, .val (.long vc_), .second, .val (.long ve_), .second, .val (.long vq), .second, .val (.int vctl), .val (.int kk), .val (.int dd), .unset, .unset, .unset, .unset, .unset] [(.ref b3)])) _
    refine XS.dup X7.here hx rfl (hb hby at_34) rfl rfl ?_
    show Steps p.tables e below (T7.setTop (mkF m 35 #[.val (.long va_), .second, .val (.long vb_), .second, .val (.long vc_), .second, .val (.long ve_), .second, .val (.long vq), .second, .val (.int vctl), .val (.int kk), .val (.int dd), .unset, .unset, .unset, .unset, .unset] [(.ref b3), (.ref b3)])) _
    refine XS.iconst X7.here hx rfl (hb hby at_35) ?_
    show Steps p.tables e below (T7.setTop (mkF m 36 #[.val (.long va_), .second, .val (.long vb_), .second, .val (.long vc_), .second, .val (.long ve_), .second, .val (.long vq), .second, .val (.int vctl), .val (.int kk), .val (.int dd), .unset, .unset, .unset, .unset, .unset] [(.int (2 : Int32)), (.ref b3), (.ref b3)])) _
    refine XS.lload X7.here hx rfl (hb hby at_36) rfl ?_
    show Steps p.tables e below (T7.setTop (mkF m 38 #[.val (.long va_), .second, .val (.long vb_), .second, .val (.long vc_), .second, .val (.long ve_), .second, .val (.long vq), .second, .val (.int vctl), .val (.int kk), .val (.int dd), .unset, .unset, .unset, .unset, .unset] [(.long vc_), (.int (2 : Int32)), (.ref b3), (.ref b3)])) _
    refine st9 _ ?_
    show Steps p.tables e below (T9.setTop (mkF m 39 #[.val (.long va_), .second, .val (.long vb_), .second, .val (.long vc_), .second, .val (.long ve_), .second, .val (.long vq), .second, .val (.int vctl), .val (.int kk), .val (.int dd), .unset, .unset, .unset, .unset, .unset] [(.ref b3)])) _
    refine XS.dup X9.here hx rfl (hb hby at_39) rfl rfl ?_
    show Steps p.tables e below (T9.setTop (mkF m 40 #[.val (.long va_), .second, .val (.long vb_), .second, .val (.long vc_), .second, .val (.long ve_), .second, .val (.long vq), .second, .val (.int vctl), .val (.int kk), .val (.int dd), .unset, .unset, .unset, .unset, .unset] [(.ref b3), (.ref b3)])) _
    refine XS.iconst X9.here hx rfl (hb hby at_40) ?_
    show Steps p.tables e below (T9.setTop (mkF m 41 #[.val (.long va_), .second, .val (.long vb_), .second, .val (.long vc_), .second, .val (.long ve_), .second, .val (.long vq), .second, .val (.int vctl), .val (.int kk), .val (.int dd), .unset, .unset, .unset, .unset, .unset] [(.int (3 : Int32)), (.ref b3), (.ref b3)])) _
    refine XS.lload X9.here hx rfl (hb hby at_41) rfl ?_
    show Steps p.tables e below (T9.setTop (mkF m 43 #[.val (.long va_), .second, .val (.long vb_), .second, .val (.long vc_), .second, .val (.long ve_), .second, .val (.long vq), .second, .val (.int vctl), .val (.int kk), .val (.int dd), .unset, .unset, .unset, .unset, .unset] [(.long ve_), (.int (3 : Int32)), (.ref b3), (.ref b3)])) _
    refine st11 _ ?_
    show Steps p.tables e below (T11.setTop (mkF m 44 #[.val (.long va_), .second, .val (.long vb_), .second, .val (.long vc_), .second, .val (.long ve_), .second, .val (.long vq), .second, .val (.int vctl), .val (.int kk), .val (.int dd), .unset, .unset, .unset, .unset, .unset] [(.ref b3)])) _
    refine XS.astore X11.here hx rfl (hb hby at_44) rfl rfl (l' := #[.val (.long va_), .second, .val (.long vb_), .second, .val (.long vc_), .second, .val (.long ve_), .second, .val (.long vq), .second, .val (.int vctl), .val (.int kk), .val (.int dd), .val (.ref b3), .unset, .unset, .unset, .unset]) rfl ?_
    show Steps p.tables e below (T11.setTop (mkF m 46 #[.val (.long va_), .second, .val (.long vb_), .second, .val (.long vc_), .second, .val (.long ve_), .second, .val (.long vq), .second, .val (.int vctl), .val (.int kk), .val (.int dd), .val (.ref b3), .unset, .unset, .unset, .unset] [])) _
    refine XS.aload X11.here hx rfl (hb hby at_46) rfl rfl ?_
    show Steps p.tables e below (T11.setTop (mkF m 48 #[.val (.long va_), .second, .val (.long vb_), .second, .val (.long vc_), .second, .val (.long ve_), .second, .val (.long vq), .second, .val (.int vctl), .val (.int kk), .val (.int dd), .val (.ref b3), .unset, .unset, .unset, .unset] [(.ref b3)])) _
    refine XS.iconst X11.here hx rfl (hb hby at_48) ?_
    show Steps p.tables e below (T11.setTop (mkF m 49 #[.val (.long va_), .second, .val (.long vb_), .second, .val (.long vc_), .second, .val (.long ve_), .second, .val (.long vq), .second, .val (.int vctl), .val (.int kk), .val (.int dd), .val (.ref b3), .unset, .unset, .unset, .unset] [(.int (0 : Int32)), (.ref b3)])) _
    refine XS.iconst X11.here hx rfl (hb hby at_49) ?_
    show Steps p.tables e below (T11.setTop (mkF m 50 #[.val (.long va_), .second, .val (.long vb_), .second, .val (.long vc_), .second, .val (.long ve_), .second, .val (.long vq), .second, .val (.int vctl), .val (.int kk), .val (.int dd), .val (.ref b3), .unset, .unset, .unset, .unset] [(.int (1 : Int32)), (.int (0 : Int32)), (.ref b3)])) _
    refine st12 _ ?_
    show Steps p.tables e below (T12.setTop (mkF m 53 #[.val (.long va_), .second, .val (.long vb_), .second, .val (.long vc_), .second, .val (.long ve_), .second, .val (.long vq), .second, .val (.int vctl), .val (.int kk), .val (.int dd), .val (.ref b3), .unset, .unset, .unset, .unset] [])) _
    refine XS.aload X12.here hx rfl (hb hby at_53) rfl rfl ?_
    show Steps p.tables e below (T12.setTop (mkF m 55 #[.val (.long va_), .second, .val (.long vb_), .second, .val (.long vc_), .second, .val (.long ve_), .second, .val (.long vq), .second, .val (.int vctl), .val (.int kk), .val (.int dd), .val (.ref b3), .unset, .unset, .unset, .unset] [(.ref b3)])) _
    refine XS.iconst X12.here hx rfl (hb hby at_55) ?_
    show Steps p.tables e below (T12.setTop (mkF m 56 #[.val (.long va_), .second, .val (.long vb_), .second, .val (.long vc_), .second, .val (.long ve_), .second, .val (.long vq), .second, .val (.int vctl), .val (.int kk), .val (.int dd), .val (.ref b3), .unset, .unset, .unset, .unset] [(.int (2 : Int32)), (.ref b3)])) _
    refine XS.iconst X12.here hx rfl (hb hby at_56) ?_
    show Steps p.tables e below (T12.setTop (mkF m 57 #[.val (.long va_), .second, .val (.long vb_), .second, .val (.long vc_), .second, .val (.long ve_), .second, .val (.long vq), .second, .val (.int vctl), .val (.int kk), .val (.int dd), .val (.ref b3), .unset, .unset, .unset, .unset] [(.int (3 : Int32)), (.int (2 : Int32)), (.ref b3)])) _
    refine st13 _ ?_
    show Steps p.tables e below (T13.setTop (mkF m 60 #[.val (.long va_), .second, .val (.long vb_), .second, .val (.long vc_), .second, .val (.long ve_), .second, .val (.long vq), .second, .val (.int vctl), .val (.int kk), .val (.int dd), .val (.ref b3), .unset, .unset, .unset, .unset] [])) _
    refine XS.aload X13.here hx rfl (hb hby at_60) rfl rfl ?_
    show Steps p.tables e below (T13.setTop (mkF m 62 #[.val (.long va_), .second, .val (.long vb_), .second, .val (.long vc_), .second, .val (.long ve_), .second, .val (.long vq), .second, .val (.int vctl), .val (.int kk), .val (.int dd), .val (.ref b3), .unset, .unset, .unset, .unset] [(.ref b3)])) _
    refine XS.iconst X13.here hx rfl (hb hby at_62) ?_
    show Steps p.tables e below (T13.setTop (mkF m 63 #[.val (.long va_), .second, .val (.long vb_), .second, .val (.long vc_), .second, .val (.long ve_), .second, .val (.long vq), .second, .val (.int vctl), .val (.int kk), .val (.int dd), .val (.ref b3), .unset, .unset, .unset, .unset] [(.int (0 : Int32)), (.ref b3)])) _
    refine XS.iconst X13.here hx rfl (hb hby at_63) ?_
    show Steps p.tables e below (T13.setTop (mkF m 64 #[.val (.long va_), .second, .val (.long vb_), .second, .val (.long vc_), .second, .val (.long ve_), .second, .val (.long vq), .second, .val (.int vctl), .val (.int kk), .val (.int dd), .val (.ref b3), .unset, .unset, .unset, .unset] [(.int (2 : Int32)), (.int (0 : Int32)), (.ref b3)])) _
    refine st14 _ ?_
    show Steps p.tables e below (T14.setTop (mkF m 67 #[.val (.long va_), .second, .val (.long vb_), .second, .val (.long vc_), .second, .val (.long ve_), .second, .val (.long vq), .second, .val (.int vctl), .val (.int kk), .val (.int dd), .val (.ref b3), .unset, .unset, .unset, .unset] [])) _
    refine XS.aload X14.here hx rfl (hb hby at_67) rfl rfl ?_
    show Steps p.tables e below (T14.setTop (mkF m 69 #[.val (.long va_), .second, .val (.long vb_), .second, .val (.long vc_), .second, .val (.long ve_), .second, .val (.long vq), .second, .val (.int vctl), .val (.int kk), .val (.int dd), .val (.ref b3), .unset, .unset, .unset, .unset] [(.ref b3)])) _
    refine XS.iconst X14.here hx rfl (hb hby at_69) ?_
    show Steps p.tables e below (T14.setTop (mkF m 70 #[.val (.long va_), .second, .val (.long vb_), .second, .val (.long vc_), .second, .val (.long ve_), .second, .val (.long vq), .second, .val (.int vctl), .val (.int kk), .val (.int dd), .val (.ref b3), .unset, .unset, .unset, .unset] [(.int (1 : Int32)), (.ref b3)])) _
    refine XS.iconst X14.here hx rfl (hb hby at_70) ?_
    show Steps p.tables e below (T14.setTop (mkF m 71 #[.val (.long va_), .second, .val (.long vb_), .second, .val (.long vc_), .second, .val (.long ve_), .second, .val (.long vq), .second, .val (.int vctl), .val (.int kk), .val (.int dd), .val (.ref b3), .unset, .unset, .unset, .unset] [(.int (3 : Int32)), (.int (1 : Int32)), (.ref b3)])) _
    refine st15 _ ?_
    show Steps p.tables e below (T15.setTop (mkF m 74 #[.val (.long va_), .second, .val (.long vb_), .second, .val (.long vc_), .second, .val (.long ve_), .second, .val (.long vq), .second, .val (.int vctl), .val (.int kk), .val (.int dd), .val (.ref b3), .unset, .unset, .unset, .unset] [])) _
    refine XS.aload X15.here hx rfl (hb hby at_74) rfl rfl ?_
    show Steps p.tables e below (T15.setTop (mkF m 76 #[.val (.long va_), .second, .val (.long vb_), .second, .val (.long vc_), .second, .val (.long ve_), .second, .val (.long vq), .second, .val (.int vctl), .val (.int kk), .val (.int dd), .val (.ref b3), .unset, .unset, .unset, .unset] [(.ref b3)])) _
    refine XS.iconst X15.here hx rfl (hb hby at_76) ?_
    show Steps p.tables e below (T15.setTop (mkF m 77 #[.val (.long va_), .second, .val (.long vb_), .second, .val (.long vc_), .second, .val (.long ve_), .second, .val (.long vq), .second, .val (.int vctl), .val (.int kk), .val (.int dd), .val (.ref b3), .unset, .unset, .unset, .unset] [(.int (1 : Int32)), (.ref b3)])) _
    refine XS.iconst X15.here hx rfl (hb hby at_77) ?_
    show Steps p.tables e below (T15.setTop (mkF m 78 #[.val (.long va_), .second, .val (.long vb_), .second, .val (.long vc_), .second, .val (.long ve_), .second, .val (.long vq), .second, .val (.int vctl), .val (.int kk), .val (.int dd), .val (.ref b3), .unset, .unset, .unset, .unset] [(.int (2 : Int32)), (.int (1 : Int32)), (.ref b3)])) _
    refine st16 _ ?_
    show Steps p.tables e below (T16.setTop (mkF m 81 #[.val (.long va_), .second, .val (.long vb_), .second, .val (.long vc_), .second, .val (.long ve_), .second, .val (.long vq), .second, .val (.int vctl), .val (.int kk), .val (.int dd), .val (.ref b3), .unset, .unset, .unset, .unset] [])) _
    refine st17 _ ?_
    show Steps p.tables e below (T17.setTop (mkF m 84 #[.val (.long va_), .second, .val (.long vb_), .second, .val (.long vc_), .second, .val (.long ve_), .second, .val (.long vq), .second, .val (.int vctl), .val (.int kk), .val (.int dd), .val (.ref b3), .unset, .unset, .unset, .unset] [(.ref b17)])) _
    refine XS.dup X17.here hx rfl (hb hby at_84) rfl rfl ?_
    show Steps p.tables e below (T17.setTop (mkF m 85 #[.val (.long va_), .second, .val (.long vb_), .second, .val (.long vc_), .second, .val (.long ve_), .second, .val (.long vq), .second, .val (.int vctl), .val (.int kk), .val (.int dd), .val (.ref b3), .unset, .unset, .unset, .unset] [(.ref b17), (.ref b17)])) _
    refine st20 _ ?_
    show Steps p.tables e below (T20.setTop (mkF m 88 #[.val (.long va_), .second, .val (.long vb_), .second, .val (.long vc_), .second, .val (.long ve_), .second, .val (.long vq), .second, .val (.int vctl), .val (.int kk), .val (.int dd), .val (.ref b3), .unset, .unset, .unset, .unset] [(.ref b20), (.ref b17), (.ref b17)])) _
    refine XS.dup X20.here hx rfl (hb hby at_88) rfl rfl ?_
    show Steps p.tables e below (T20.setTop (mkF m 89 #[.val (.long va_), .second, .val (.long vb_), .second, .val (.long vc_), .second, .val (.long ve_), .second, .val (.long vq), .second, .val (.int vctl), .val (.int kk), .val (.int dd), .val (.ref b3), .unset, .unset, .unset, .unset] [(.ref b20), (.ref b20), (.ref b17), (.ref b17)])) _
    refine st30.trans ?_
    show Steps p.tables e below (T30.setTop (mkF m 92 #[.val (.long va_), .second, .val (.long vb_), .second, .val (.long vc_), .second, .val (.long ve_), .second, .val (.long vq), .second, .val (.int vctl), .val (.int kk), .val (.int dd), .val (.ref b3), .unset, .unset, .unset, .unset] [(.ref b20), (.ref b17), (.ref b17)])) _
    refine st39.trans ?_
    show Steps p.tables e below (T39.setTop (mkF m 95 #[.val (.long va_), .second, .val (.long vb_), .second, .val (.long vc_), .second, .val (.long ve_), .second, .val (.long vq), .second, .val (.int vctl), .val (.int kk), .val (.int dd), .val (.ref b3), .unset, .unset, .unset, .unset] [(.ref b17)])) _
    refine XS.astore X39.here hx rfl (hb hby at_95) rfl rfl (l' := #[.val (.long va_), .second, .val (.long vb_), .second, .val (.long vc_), .second, .val (.long ve_), .second, .val (.long vq), .second, .val (.int vctl), .val (.int kk), .val (.int dd), .val (.ref b3), .val (.ref b17), .unset, .unset, .unset]) rfl ?_
    show Steps p.tables e below (T39.setTop (mkF m 97 #[.val (.long va_), .second, .val (.long vb_), .second, .val (.long vc_), .second, .val (.long ve_), .second, .val (.long vq), .second, .val (.int vctl), .val (.int kk), .val (.int dd), .val (.ref b3), .val (.ref b17), .unset, .unset, .unset] [])) _
    refine st43 _ ?_
    show Steps p.tables e below (T43.setTop (mkF m 100 #[.val (.long va_), .second, .val (.long vb_), .second, .val (.long vc_), .second, .val (.long ve_), .second, .val (.long vq), .second, .val (.int vctl), .val (.int kk), .val (.int dd), .val (.ref b3), .val (.ref b17), .unset, .unset, .unset] [(.ref b43)])) _
    refine XS.dup X43.here hx rfl (hb hby at_100) rfl rfl ?_
    show Steps p.tables e below (T43.setTop (mkF m 101 #[.val (.long va_), .second, .val (.long vb_), .second, .val (.long vc_), .second, .val (.long ve_), .second, .val (.long vq), .second, .val (.int vctl), .val (.int kk), .val (.int dd), .val (.ref b3), .val (.ref b17), .unset, .unset, .unset] [(.ref b43), (.ref b43)])) _
    refine XS.aconstNull X43.here hx rfl (hb hby at_101) ?_
    show Steps p.tables e below (T43.setTop (mkF m 102 #[.val (.long va_), .second, .val (.long vb_), .second, .val (.long vc_), .second, .val (.long ve_), .second, .val (.long vq), .second, .val (.int vctl), .val (.int kk), .val (.int dd), .val (.ref b3), .val (.ref b17), .unset, .unset, .unset] [.null, (.ref b43), (.ref b43)])) _
    refine XS.lconst X43.here hx rfl (hb hby at_102) ?_
    show Steps p.tables e below (T43.setTop (mkF m 103 #[.val (.long va_), .second, .val (.long vb_), .second, .val (.long vc_), .second, .val (.long ve_), .second, .val (.long vq), .second, .val (.int vctl), .val (.int kk), .val (.int dd), .val (.ref b3), .val (.ref b17), .unset, .unset, .unset] [(.long (0 : Int64)), .null, (.ref b43), (.ref b43)])) _
    refine XS.lconst X43.here hx rfl (hb hby at_103) ?_
    show Steps p.tables e below (T43.setTop (mkF m 104 #[.val (.long va_), .second, .val (.long vb_), .second, .val (.long vc_), .second, .val (.long ve_), .second, .val (.long vq), .second, .val (.int vctl), .val (.int kk), .val (.int dd), .val (.ref b3), .val (.ref b17), .unset, .unset, .unset] [(.long (0 : Int64)), (.long (0 : Int64)), .null, (.ref b43), (.ref b43)])) _
    refine XS.lconst X43.here hx rfl (hb hby at_104) ?_
    show Steps p.tables e below (T43.setTop (mkF m 105 #[.val (.long va_), .second, .val (.long vb_), .second, .val (.long vc_), .second, .val (.long ve_), .second, .val (.long vq), .second, .val (.int vctl), .val (.int kk), .val (.int dd), .val (.ref b3), .val (.ref b17), .unset, .unset, .unset] [(.long (0 : Int64)), (.long (0 : Int64)), (.long (0 : Int64)), .null, (.ref b43), (.ref b43)])) _
    refine X43.ldc2J hx hown (mvT hZ (hw _ (List.mem_of_getElem? (i := 39) rfl))) (g := (mkF m 105 #[.val (.long va_), .second, .val (.long vb_), .second, .val (.long vc_), .second, .val (.long ve_), .second, .val (.long vq), .second, .val (.int vctl), .val (.int kk), .val (.int dd), .val (.ref b3), .val (.ref b17), .unset, .unset, .unset] [(.long (0 : Int64)), (.long (0 : Int64)), (.long (0 : Int64)), .null, (.ref b43), (.ref b43)])) rfl (hb hby at_105) ?_
    show Steps p.tables e below (T43.setTop (mkF m 108 #[.val (.long va_), .second, .val (.long vb_), .second, .val (.long vc_), .second, .val (.long ve_), .second, .val (.long vq), .second, .val (.int vctl), .val (.int kk), .val (.int dd), .val (.ref b3), .val (.ref b17), .unset, .unset, .unset] [(.long (7 : Int64)), (.long (0 : Int64)), (.long (0 : Int64)), (.long (0 : Int64)), .null, (.ref b43), (.ref b43)])) _
    refine XS.iconst X43.here hx rfl (hb hby at_108) ?_
    show Steps p.tables e below (T43.setTop (mkF m 109 #[.val (.long va_), .second, .val (.long vb_), .second, .val (.long vc_), .second, .val (.long ve_), .second, .val (.long vq), .second, .val (.int vctl), .val (.int kk), .val (.int dd), .val (.ref b3), .val (.ref b17), .unset, .unset, .unset] [(.int (0 : Int32)), (.long (7 : Int64)), (.long (0 : Int64)), (.long (0 : Int64)), (.long (0 : Int64)), .null, (.ref b43), (.ref b43)])) _
    refine st54.trans ?_
    show Steps p.tables e below (T54.setTop (mkF m 112 #[.val (.long va_), .second, .val (.long vb_), .second, .val (.long vc_), .second, .val (.long ve_), .second, .val (.long vq), .second, .val (.int vctl), .val (.int kk), .val (.int dd), .val (.ref b3), .val (.ref b17), .unset, .unset, .unset] [(.ref b43)])) _
    refine XS.astore X54.here hx rfl (hb hby at_112) rfl rfl (l' := #[.val (.long va_), .second, .val (.long vb_), .second, .val (.long vc_), .second, .val (.long ve_), .second, .val (.long vq), .second, .val (.int vctl), .val (.int kk), .val (.int dd), .val (.ref b3), .val (.ref b17), .val (.ref b43), .unset, .unset]) rfl ?_
    exact kt
  rcases hk5 with rfl | rfl | rfl | rfl | rfl
  ·
    obtain ⟨dn, hdn, rfl⟩ := own_dn0 hdd
    obtain ⟨cq64, kq64, q64a, q64b, q64c⟩ := isOf hZ rfl c57
    obtain ⟨_, _, ⟨T64, L64, k64, n64⟩, -, X64, ⟨Lc64, hQ64, l64, y64, z64⟩, st64⟩ := X54.virtualBack hx (y := (⟨"com/example/causeline/causeline/core/Filing", "removeBefore", "(I)I"⟩ : MethodName)) (z := (⟨"com/example/causeline/causeline/core/Filing", "removeBefore", "(I)I"⟩ : MethodName)) hown (mvT hZ (hw _ (List.mem_of_getElem? (i := 83) rfl))) (mvT hZ (hw _ (List.mem_of_getElem? (i := 84) rfl))) (notFace_of_selects (args := #[]) (mvT hZ (hw _ (List.mem_of_getElem? (i := 86) rfl)))) (mvT hZ (hw _ (List.mem_of_getElem? (i := 86) rfl))) (mvT hZ (hw _ (List.mem_of_getElem? (i := 85) rfl))) (by decide) (backOf (W := 0) (rm9 l Z a0 hw [] b17 (Int32.ofNat dn) vN (0 : Int32) (0 : Int32) T54.heap n0 Z54 c57 c58 c60 c61 g_b17) hZ (hw _ (List.mem_of_getElem? (i := 87) rfl)) (hw _ (List.mem_of_getElem? (i := 7) rfl)) (by decide) (by decide)) q64a q64c (g := (mkF m 185 #[.val (.long va_), .second, .val (.long vb_), .second, .val (.long vc_), .second, .val (.long ve_), .second, .val (.long vq), .second, .val (.int vctl), .val (.int (0 : Int32)), .val (.int (Int32.ofNat dn)), .val (.ref b3), .val (.ref b17), .val (.ref b43), .unset, .unset] [(.int (Int32.ofNat dn)), (.ref b17)])) rfl (by rw [hml]; rfl) (Steps.refl _) (argsL := [(.int (Int32.ofNat dn))]) (rest := []) (lenOf pd_5 rfl) rfl (by show 2 * 0 + _ ≤ _; exact Nat.le_of_eq rfl) (hb hby at_185) (fun _ _ => ⟨rfl, rfl, (by decide : 6 + 0 ≤ _), (by decide : 33 + 0 ≤ _)⟩)
    dsimp only [Pt.U, Pt.locs, Pt.cells, Pt.slots] at X64 l64 y64 z64 st64 hQ64
    obtain rfl : k64 = 6 := y64; obtain rfl : n64 = 33 := z64
    obtain ⟨rfl, N64q, K64q, f64_0, f64_1, f64_2, f64_3⟩ := hQ64
    have N64 : Fr n0 L64 := Eq.mpr (congrArg (Fr n0) l64) (Fr.app N54 N64q)
    have Z64 : n0 ≤ T64.heap.size := Nat.le_trans Z54 K64q.1
    have c65 : Arv Z T64.heap b3 k3 .long (4 : Int32) [(.long y14_0), (.long y16_1), (.long y16_2), (.long y15_3)] (.long (0 : Int64)) := c55.keep K64q (ninS ne18 nin0)
    have c66 : Exa Z T64.heap b20 "com/example/causeline/causeline/core/CopyTable" := c56.keep K64q
    have c67 : Exa Z T64.heap b17 "com/example/causeline/causeline/core/Filing" := c57.keep K64q
    have c68 : Exa Z T64.heap b43 "com/example/causeline/causeline/core/Waiting" := c62.keep K64q
    have c69 : Fld Z T64.heap b43 "com/example/causeline/causeline/core/Waiting" "order" "J" (.long (7 : Int64)) := f54_0.keep K64q (ninS (Ne.symm ne46) nin0)
    have K64 : Keep h0 T64.heap [] := K54.trans K64q (allS (Or.inr sz_b17) all0)
    have g70 : Fld Z T64.heap b17 "com/example/causeline/causeline/core/Filing" "first" "I" (.int (Int32.ofNat (if dn = 0 then 0 else dn))) := by have q := f64_2; rw [own_ef_n0 (own_w0 hdn (by decide))] at q; exact q
    have g71 : Fld Z T64.heap b17 "com/example/causeline/causeline/core/Filing" "end" "I" (.int (Int32.ofNat (if dn = 0 then 0 else 0))) := by have q := f64_3; rw [own_ee_n0 (own_w0 hdn (by decide))] at q; exact q
    obtain ⟨cq72, kq72, q72a, q72b, q72c⟩ := isOf hZ rfl f64_0
    obtain ⟨_, _, ⟨T72, L72, k72, n72⟩, -, X72, ⟨Lc72, hQ72, l72, y72, z72⟩, st72⟩ := X64.virtualBack hx (y := (⟨"com/example/causeline/causeline/core/Filing", "past", "(J)I"⟩ : MethodName)) (z := (⟨"com/example/causeline/causeline/core/Filing", "past", "(J)I"⟩ : MethodName)) hown (mvT hZ (hw _ (List.mem_of_getElem? (i := 92) rfl))) (mvT hZ (hw _ (List.mem_of_getElem? (i := 93) rfl))) (notFace_of_selects (args := #[]) (mvT hZ (hw _ (List.mem_of_getElem? (i := 95) rfl)))) (mvT hZ (hw _ (List.mem_of_getElem? (i := 95) rfl))) (mvT hZ (hw _ (List.mem_of_getElem? (i := 94) rfl))) (by decide) (backOf (W := 0) (rm11 l Z a0 hw [] b17 vq vN kN (0 : Int32) [] (if dn = 0 then 0 else dn) (if dn = 0 then 0 else 0) T64.heap n0 Z64 f64_1 g70 g71 (VN.keep K64 nin0) (own_w1 hdn (by decide)) (own_w2 hdn (by decide)) (own_w3 hdn (by decide)) (Or.inl (by split <;> rfl))) hZ (hw _ (List.mem_of_getElem? (i := 96) rfl)) (hw _ (List.mem_of_getElem? (i := 7) rfl)) (by decide) (by decide)) q72a q72c (g := (mkF m 193 #[.val (.long va_), .second, .val (.long vb_), .second, .val (.long vc_), .second, .val (.long ve_), .second, .val (.long vq), .second, .val (.int vctl), .val (.int (0 : Int32)), .val (.int (Int32.ofNat dn)), .val (.ref b3), .val (.ref b17), .val (.ref b43), .unset, .unset] [(.long vq), (.ref b17)])) rfl (by rw [hml]; rfl) (Steps.refl _) (argsL := [(.long vq)]) (rest := []) (lenOf pd_6 rfl) rfl (by show 2 * 0 + _ ≤ _; exact Nat.le_of_eq rfl) (hb hby at_193) (fun _ _ => ⟨rfl, rfl, (by decide : 6 + 0 ≤ _), (by decide : 33 + 0 ≤ _)⟩)
    dsimp only [Pt.U, Pt.locs, Pt.cells, Pt.slots] at X72 l72 y72 z72 st72 hQ72
    obtain rfl : k72 = 6 := y72; obtain rfl : n72 = 33 := z72
    obtain ⟨rfl, N72q, K72q⟩ := hQ72
    have N72 : Fr n0 L72 := Eq.mpr (congrArg (Fr n0) l72) (Fr.app N64 N72q)
    have Z72 : n0 ≤ T72.heap.size := Nat.le_trans Z64 K72q.1
    have c73 : Arv Z T72.heap b3 k3 .long (4 : Int32) [(.long y14_0), (.long y16_1), (.long y16_2), (.long y15_3)] (.long (0 : Int64)) := c65.keep K72q nin0
    have c74 : Exa Z T72.heap b20 "com/example/causeline/causeline/core/CopyTable" := c66.keep K72q
    have c75 : Exa Z T72.heap b43 "com/example/causeline/causeline/core/Waiting" := c68.keep K72q
    have c76 : Fld Z T72.heap b43 "com/example/causeline/causeline/core/Waiting" "order" "J" (.long (7 : Int64)) := c69.keep K72q nin0
    have c77 : Exa Z T72.heap b17 "com/example/causeline/causeline/core/Filing" := f64_0.keep K72q
    have c78 : Fld Z T72.heap b17 "com/example/causeline/causeline/core/Filing" "numbers" "[J" (.ref vN) := f64_1.keep K72q nin0
    have c79 : Fld Z T72.heap b17 "com/example/causeline/causeline/core/Filing" "first" "I" (.int (Int32.ofNat (if dn = 0 then 0 else dn))) := g70.keep K72q nin0
    have c80 : Fld Z T72.heap b17 "com/example/causeline/causeline/core/Filing" "end" "I" (.int (Int32.ofNat (if dn = 0 then 0 else 0))) := g71.keep K72q nin0
    have K72 : Keep h0 T72.heap [] := K64.trans K72q all0
    have pre81 : ∀ t, Steps p.tables e below (T72.setTop (mkF m 202 #[.val (.long va_), .second, .val (.long vb_), .second, .val (.long vc_), .second, .val (.long ve_), .second, .val (.long vq), .second, .val (.int vctl), .val (.int (0 : Int32)), .val (.int (Int32.ofNat dn)), .val (.ref b3), .val (.ref b17), .val (.ref b43), .val (.int (Int32.ofNat (own_bs (own_g [] vq) 4 (if dn = 0 then 0 else dn) (if dn = 0 then 0 else 0)))), .unset] [(.int (0 : Int32)), (.int (Int32.ofNat dn))])) t → Steps p.tables e below (s₁.setTop (entryFrame m #[(.long va_), (.long vb_), (.long vc_), (.long ve_), (.long vq), (.int vctl)] maxLocals)) t := by
      intro t kt
      refine pre63 t ?_
      show Steps p.tables e below (T54.setTop (mkF m 114 #[.val (.long va_), .second, .val (.long vb_), .second, .val (.long vc_), .second, .val (.long ve_), .second, .val (.long vq), .second, .val (.int vctl), .val (.int (0 : Int32)), .val (.int (Int32.ofNat dn)), .val (.ref b3), .val (.ref b17), .val (.ref b43), .unset, .unset] [])) _
      refine XS.iload X54.here hx rfl (hb hby at_114) rfl ?_
      show Steps p.tables e below (T54.setTop (mkF m 116 #[.val (.long va_), .second, .val (.long vb_), .second, .val (.long vc_), .second, .val (.long ve_), .second, .val (.long vq), .second, .val (.int vctl), .val (.int (0 : Int32)), .val (.int (Int32.ofNat dn)), .val (.ref b3), .val (.ref b17), .val (.ref b43), .unset, .unset] [(.int (0 : Int32))])) _
      refine XS.ifYes X54.here hx rfl (pc0 := 116) (pc' := 130) rfl (hb hby at_116) rfl ((if0 _ _).trans (flt ((by decide) : ¬ ((0 : Int32) < (0 : Int32)))).2.2.2) (by decide) (by decide) ?_
      show Steps p.tables e below (T54.setTop (mkF m 130 #[.val (.long va_), .second, .val (.long vb_), .second, .val (.long vc_), .second, .val (.long ve_), .second, .val (.long vq), .second, .val (.int vctl), .val (.int (0 : Int32)), .val (.int (Int32.ofNat dn)), .val (.ref b3), .val (.ref b17), .val (.ref b43), .unset, .unset] [])) _
      refine XS.iload X54.here hx rfl (hb hby at_130) rfl ?_
      show Steps p.tables e below (T54.setTop (mkF m 132 #[.val (.long va_), .second, .val (.long vb_), .second, .val (.long vc_), .second, .val (.long ve_), .second, .val (.long vq), .second, .val (.int vctl), .val (.int (0 : Int32)), .val (.int (Int32.ofNat dn)), .val (.ref b3), .val (.ref b17), .val (.ref b43), .unset, .unset] [(.int (0 : Int32))])) _
      refine XS.iconst X54.here hx rfl (hb hby at_132) ?_
      show Steps p.tables e below (T54.setTop (mkF m 133 #[.val (.long va_), .second, .val (.long vb_), .second, .val (.long vc_), .second, .val (.long ve_), .second, .val (.long vq), .second, .val (.int vctl), .val (.int (0 : Int32)), .val (.int (Int32.ofNat dn)), .val (.ref b3), .val (.ref b17), .val (.ref b43), .unset, .unset] [(.int (1 : Int32)), (.int (0 : Int32))])) _
      refine XS.icmpYes X54.here hx rfl (pc0 := 133) (pc' := 147) rfl (hb hby at_133) rfl (flt ((by decide) : ¬ ((1 : Int32) < (0 : Int32)))).2.2.2 (by decide) (by decide) ?_
      show Steps p.tables e below (T54.setTop (mkF m 147 #[.val (.long va_), .second, .val (.long vb_), .second, .val (.long vc_), .second, .val (.long ve_), .second, .val (.long vq), .second, .val (.int vctl), .val (.int (0 : Int32)), .val (.int (Int32.ofNat dn)), .val (.ref b3), .val (.ref b17), .val (.ref b43), .unset, .unset] [])) _
      refine XS.iload X54.here hx rfl (hb hby at_147) rfl ?_
      show Steps p.tables e below (T54.setTop (mkF m 149 #[.val (.long va_), .second, .val (.long vb_), .second, .val (.long vc_), .second, .val (.long ve_), .second, .val (.long vq), .second, .val (.int vctl), .val (.int (0 : Int32)), .val (.int (Int32.ofNat dn)), .val (.ref b3), .val (.ref b17), .val (.ref b43), .unset, .unset] [(.int (0 : Int32))])) _
      refine XS.iconst X54.here hx rfl (hb hby at_149) ?_
      show Steps p.tables e below (T54.setTop (mkF m 150 #[.val (.long va_), .second, .val (.long vb_), .second, .val (.long vc_), .second, .val (.long ve_), .second, .val (.long vq), .second, .val (.int vctl), .val (.int (0 : Int32)), .val (.int (Int32.ofNat dn)), .val (.ref b3), .val (.ref b17), .val (.ref b43), .unset, .unset] [(.int (2 : Int32)), (.int (0 : Int32))])) _
      refine XS.icmpYes X54.here hx rfl (pc0 := 150) (pc' := 164) rfl (hb hby at_150) rfl (flt ((by decide) : ¬ ((2 : Int32) < (0 : Int32)))).2.2.2 (by decide) (by decide) ?_
      show Steps p.tables e below (T54.setTop (mkF m 164 #[.val (.long va_), .second, .val (.long vb_), .second, .val (.long vc_), .second, .val (.long ve_), .second, .val (.long vq), .second, .val (.int vctl), .val (.int (0 : Int32)), .val (.int (Int32.ofNat dn)), .val (.ref b3), .val (.ref b17), .val (.ref b43), .unset, .unset] [])) _
      refine XS.iload X54.here hx rfl (hb hby at_164) rfl ?_
      show Steps p.tables e below (T54.setTop (mkF m 166 #[.val (.long va_), .second, .val (.long vb_), .second, .val (.long vc_), .second, .val (.long ve_), .second, .val (.long vq), .second, .val (.int vctl), .val (.int (0 : Int32)), .val (.int (Int32.ofNat dn)), .val (.ref b3), .val (.ref b17), .val (.ref b43), .unset, .unset] [(.int (0 : Int32))])) _
      refine XS.iconst X54.here hx rfl (hb hby at_166) ?_
      show Steps p.tables e below (T54.setTop (mkF m 167 #[.val (.long va_), .second, .val (.long vb_), .second, .val (.long vc_), .second, .val (.long ve_), .second, .val (.long vq), .second, .val (.int vctl), .val (.int (0 : Int32)), .val (.int (Int32.ofNat dn)), .val (.ref b3), .val (.ref b17), .val (.ref b43), .unset, .unset] [(.int (3 : Int32)), (.int (0 : Int32))])) _
      refine XS.icmpYes X54.here hx rfl (pc0 := 167) (pc' := 181) rfl (hb hby at_167) rfl (flt ((by decide) : ¬ ((3 : Int32) < (0 : Int32)))).2.2.2 (by decide) (by decide) ?_
      show Steps p.tables e below (T54.setTop (mkF m 181 #[.val (.long va_), .second, .val (.long vb_), .second, .val (.long vc_), .second, .val (.long ve_), .second, .val (.long vq), .second, .val (.int vctl), .val (.int (0 : Int32)), .val (.int (Int32.ofNat dn)), .val (.ref b3), .val (.ref b17), .val (.ref b43), .unset, .unset] [])) _
      refine XS.aload X54.here hx rfl (hb hby at_181) rfl rfl ?_
      show Steps p.tables e below (T54.setTop (mkF m 183 #[.val (.long va_), .second, .val (.long vb_), .second, .val (.long vc_), .second, .val (.long ve_), .second, .val (.long vq), .second, .val (.int vctl), .val (.int (0 : Int32)), .val (.int (Int32.ofNat dn)), .val (.ref b3), .val (.ref b17), .val (.ref b43), .unset, .unset] [(.ref b17)])) _
      refine XS.iload X54.here hx rfl (hb hby at_183) rfl ?_
      show Steps p.tables e below (T54.setTop (mkF m 185 #[.val (.long va_), .second, .val (.long vb_), .second, .val (.long vc_), .second, .val (.long ve_), .second, .val (.long vq), .second, .val (.int vctl), .val (.int (0 : Int32)), .val (.int (Int32.ofNat dn)), .val (.ref b3), .val (.ref b17), .val (.ref b43), .unset, .unset] [(.int (Int32.ofNat dn)), (.ref b17)])) _
      refine st64.trans ?_
      show Steps p.tables e below (T64.setTop (mkF m 188 #[.val (.long va_), .second, .val (.long vb_), .second, .val (.long vc_), .second, .val (.long ve_), .second, .val (.long vq), .second, .val (.int vctl), .val (.int (0 : Int32)), .val (.int (Int32.ofNat dn)), .val (.ref b3), .val (.ref b17), .val (.ref b43), .unset, .unset] [(.int ((Int32.ofNat dn) - (0 : Int32)))])) _
      refine XS.pop X64.here hx rfl (hb hby at_188) rfl rfl ?_
      show Steps p.tables e below (T64.setTop (mkF m 189 #[.val (.long va_), .second, .val (.long vb_), .second, .val (.long vc_), .second, .val (.long ve_), .second, .val (.long vq), .second, .val (.int vctl), .val (.int (0 : Int32)), .val (.int (Int32.ofNat dn)), .val (.ref b3), .val (.ref b17), .val (.ref b43), .unset, .unset] [])) _
      refine XS.aload X64.here hx rfl (hb hby at_189) rfl rfl ?_
      show Steps p.tables e below (T64.setTop (mkF m 191 #[.val (.long va_), .second, .val (.long vb_), .second, .val (.long vc_), .second, .val (.long ve_), .second, .val (.long vq), .second, .val (.int vctl), .val (.int (0 : Int32)), .val (.int (Int32.ofNat dn)), .val (.ref b3), .val (.ref b17), .val (.ref b43), .unset, .unset] [(.ref b17)])) _
      refine XS.lload X64.here hx rfl (hb hby at_191) rfl ?_
      show Steps p.tables e below (T64.setTop (mkF m 193 #[.val (.long va_), .second, .val (.long vb_), .second, .val (.long vc_), .second, .val (.long ve_), .second, .val (.long vq), .second, .val (.int vctl), .val (.int (0 : Int32)), .val (.int (Int32.ofNat dn)), .val (.ref b3), .val (.ref b17), .val (.ref b43), .unset, .unset] [(.long vq), (.ref b17)])) _
      refine st72.trans ?_
      show Steps p.tables e below (T72.setTop (mkF m 196 #[.val (.long va_), .second, .val (.long vb_), .second, .val (.long vc_), .second, .val (.long ve_), .second, .val (.long vq), .second, .val (.int vctl), .val (.int (0 : Int32)), .val (.int (Int32.ofNat dn)), .val (.ref b3), .val (.ref b17), .val (.ref b43), .unset, .unset] [(.int (Int32.ofNat (own_bs (own_g [] vq) 4 (if dn = 0 then 0 else dn) (if dn = 0 then 0 else 0))))])) _
      refine XS.istore X72.here hx rfl (hb hby at_196) rfl (l' := #[.val (.long va_), .second, .val (.long vb_), .second, .val (.long vc_), .second, .val (.long ve_), .second, .val (.long vq), .second, .val (.int vctl), .val (.int (0 : Int32)), .val (.int (Int32.ofNat dn)), .val (.ref b3), .val (.ref b17), .val (.ref b43), .val (.int (Int32.ofNat (own_bs (own_g [] vq) 4 (if dn = 0 then 0 else dn) (if dn = 0 then 0 else 0)))), .unset]) rfl ?_
      show Steps p.tables e below (T72.setTop (mkF m 198 #[.val (.long va_), .second, .val (.long vb_), .second, .val (.long vc_), .second, .val (.long ve_), .second, .val (.long vq), .second, .val (.int vctl), .val (.int (0 : Int32)), .val (.int (Int32.ofNat dn)), .val (.ref b3), .val (.ref b17), .val (.ref b43), .val (.int (Int32.ofNat (own_bs (own_g [] vq) 4 (if dn = 0 then 0 else dn) (if dn = 0 then 0 else 0)))), .unset] [])) _
      refine XS.iload X72.here hx rfl (hb hby at_198) rfl ?_
      show Steps p.tables e below (T72.setTop (mkF m 200 #[.val (.long va_), .second, .val (.long vb_), .second, .val (.long vc_), .second, .val (.long ve_), .second, .val (.long vq), .second, .val (.int vctl), .val (.int (0 : Int32)), .val (.int (Int32.ofNat dn)), .val (.ref b3), .val (.ref b17), .val (.ref b43), .val (.int (Int32.ofNat (own_bs (own_g [] vq) 4 (if dn = 0 then 0 else dn) (if dn = 0 then 0 else 0)))), .unset] [(.int (Int32.ofNat dn))])) _
      refine XS.iload X72.here hx rfl (hb hby at_200) rfl ?_
      exact kt
    by_cases hc82 : (Int32.ofNat dn) < (0 : Int32)
    ·
      obtain ⟨_, _, ⟨T83, L83, k83, n83⟩, -, X83, ⟨Lc83, hQ83, l83, y83, z83⟩, st83⟩ := Jvm.LawKit.callS X72 hx (y := (⟨"com/example/causeline/causeline/core/FilingPastPinLaw", "in", "([JIIIJ)I"⟩ : MethodName)) hown (mvT hZ (hw _ (List.mem_of_getElem? (i := 97) rfl))) (mvT hZ (hw _ (List.mem_of_getElem? (i := 98) rfl))) (mvT hZ (hw _ (List.mem_of_getElem? (i := 3) rfl))) (mvT hZ (hw _ (List.mem_of_getElem? (i := 99) rfl))) (by decide) (backOf (W := 1) (rmIn0 l Z a0 hw [] b3 (Int32.ofNat dn) (0 : Int32) vq y14_0 y16_1 y16_2 y15_3 k3 T72.heap n0 Z72 c73) hZ (hw _ (List.mem_of_getElem? (i := 99) rfl)) (hw _ (List.mem_of_getElem? (i := 3) rfl)) (by decide) (by decide)) (g := (mkF m 216 #[.val (.long va_), .second, .val (.long vb_), .second, .val (.long vc_), .second, .val (.long ve_), .second, .val (.long vq), .second, .val (.int vctl), .val (.int (0 : Int32)), .val (.int (Int32.ofNat dn)), .val (.ref b3), .val (.ref b17), .val (.ref b43), .val (.int (Int32.ofNat (own_bs (own_g [] vq) 4 (if dn = 0 then 0 else dn) (if dn = 0 then 0 else 0)))), .unset] [(.long vq), (.int (0 : Int32)), (.int (Int32.ofNat dn)), (.int (0 : Int32)), (.ref b3), (.int (Int32.ofNat dn))])) rfl (by rw [hml]; rfl) (argsL := [(.ref b3), (.int (0 : Int32)), (.int (Int32.ofNat dn)), (.int (0 : Int32)), (.long vq)]) (rest := [(.int (Int32.ofNat dn))]) (lenOf pd_7 rfl) rfl (by show 2 * 0 + _ ≤ _; exact Nat.le_of_eq rfl) (hb hby at_216) (fun _ _ => ⟨rfl, rfl, (by decide : 6 + 0 ≤ _), (by decide : 33 + 0 ≤ _)⟩)
      dsimp only [Pt.U, Pt.locs, Pt.cells, Pt.slots] at X83 l83 y83 z83 st83 hQ83
      obtain rfl : k83 = 6 := y83; obtain rfl : n83 = 33 := z83
      obtain ⟨rfl, N83q, e83q⟩ := hQ83
      have N83 : Fr n0 L83 := Eq.mpr (congrArg (Fr n0) l83) (Fr.app N72 N83q)
      obtain ⟨_, _, ⟨T84, L84, k84, n84⟩, -, X84, ⟨Lc84, hQ84, l84, y84, z84⟩, st84⟩ := Jvm.LawKit.callS X83 hx (y := (⟨"com/example/causeline/causeline/core/FilingPastPinLaw", "in", "([JIIIJ)I"⟩ : MethodName)) hown (mvT hZ (hw _ (List.mem_of_getElem? (i := 97) rfl))) (mvT hZ (hw _ (List.mem_of_getElem? (i := 98) rfl))) (mvT hZ (hw _ (List.mem_of_getElem? (i := 3) rfl))) (mvT hZ (hw _ (List.mem_of_getElem? (i := 99) rfl))) (by decide) (backOf (W := 1) (rmIn1 l Z a0 hw [] b3 (Int32.ofNat dn) (0 : Int32) vq y14_0 y16_1 y16_2 y15_3 k3 T72.heap n0 Z72 c73) hZ (hw _ (List.mem_of_getElem? (i := 99) rfl)) (hw _ (List.mem_of_getElem? (i := 3) rfl)) (by decide) (by decide)) (g := (mkF m 229 #[.val (.long va_), .second, .val (.long vb_), .second, .val (.long vc_), .second, .val (.long ve_), .second, .val (.long vq), .second, .val (.int vctl), .val (.int (0 : Int32)), .val (.int (Int32.ofNat dn)), .val (.ref b3), .val (.ref b17), .val (.ref b43), .val (.int (Int32.ofNat (own_bs (own_g [] vq) 4 (if dn = 0 then 0 else dn) (if dn = 0 then 0 else 0)))), .unset] [(.long vq), (.int (0 : Int32)), (.int (Int32.ofNat dn)), (.int (1 : Int32)), (.ref b3), (.int ((Int32.ofNat dn) + (own_in0 b3 (Int32.ofNat dn) (0 : Int32) vq y14_0 y16_1 y16_2 y15_3)))])) rfl (by rw [hml]; rfl) (argsL := [(.ref b3), (.int (1 : Int32)), (.int (Int32.ofNat dn)), (.int (0 : Int32)), (.long vq)]) (rest := [(.int ((Int32.ofNat dn) + (own_in0 b3 (Int32.ofNat dn) (0 : Int32) vq y14_0 y16_1 y16_2 y15_3)))]) (lenOf pd_7 rfl) rfl (by show 2 * 0 + _ ≤ _; exact Nat.le_of_eq rfl) (hb hby at_229) (fun _ _ => ⟨rfl, e83q, (by decide : 6 + 0 ≤ _), (by decide : 33 + 0 ≤ _)⟩)
      dsimp only [Pt.U, Pt.locs, Pt.cells, Pt.slots] at X84 l84 y84 z84 st84 hQ84
      obtain rfl : k84 = 6 := y84; obtain rfl : n84 = 33 := z84
      obtain ⟨rfl, N84q, e84q⟩ := hQ84
      have N84 : Fr n0 L84 := Eq.mpr (congrArg (Fr n0) l84) (Fr.app N83 N84q)
      obtain ⟨_, _, ⟨T85, L85, k85, n85⟩, -, X85, ⟨Lc85, hQ85, l85, y85, z85⟩, st85⟩ := Jvm.LawKit.callS X84 hx (y := (⟨"com/example/causeline/causeline/core/FilingPastPinLaw", "in", "([JIIIJ)I"⟩ : MethodName)) hown (mvT hZ (hw _ (List.mem_of_getElem? (i := 97) rfl))) (mvT hZ (hw _ (List.mem_of_getElem? (i := 98) rfl))) (mvT hZ (hw _ (List.mem_of_getElem? (i := 3) rfl))) (mvT hZ (hw _ (List.mem_of_getElem? (i := 99) rfl))) (by decide) (backOf (W := 1) (rmIn2 l Z a0 hw [] b3 (Int32.ofNat dn) (0 : Int32) vq y14_0 y16_1 y16_2 y15_3 k3 T72.heap n0 Z72 c73) hZ (hw _ (List.mem_of_getElem? (i := 99) rfl)) (hw _ (List.mem_of_getElem? (i := 3) rfl)) (by decide) (by decide)) (g := (mkF m 242 #[.val (.long va_), .second, .val (.long vb_), .second, .val (.long vc_), .second, .val (.long ve_), .second, .val (.long vq), .second, .val (.int vctl), .val (.int (0 : Int32)), .val (.int (Int32.ofNat dn)), .val (.ref b3), .val (.ref b17), .val (.ref b43), .val (.int (Int32.ofNat (own_bs (own_g [] vq) 4 (if dn = 0 then 0 else dn) (if dn = 0 then 0 else 0)))), .unset] [(.long vq), (.int (0 : Int32)), (.int (Int32.ofNat dn)), (.int (2 : Int32)), (.ref b3), (.int (((Int32.ofNat dn) + (own_in0 b3 (Int32.ofNat dn) (0 : Int32) vq y14_0 y16_1 y16_2 y15_3)) + (own_in1 b3 (Int32.ofNat dn) (0 : Int32) vq y14_0 y16_1 y16_2 y15_3)))])) rfl (by rw [hml]; rfl) (argsL := [(.ref b3), (.int (2 : Int32)), (.int (Int32.ofNat dn)), (.int (0 : Int32)), (.long vq)]) (rest := [(.int (((Int32.ofNat dn) + (own_in0 b3 (Int32.ofNat dn) (0 : Int32) vq y14_0 y16_1 y16_2 y15_3)) + (own_in1 b3 (Int32.ofNat dn) (0 : Int32) vq y14_0 y16_1 y16_2 y15_3)))]) (lenOf pd_7 rfl) rfl (by show 2 * 0 + _ ≤ _; exact Nat.le_of_eq rfl) (hb hby at_242) (fun _ _ => ⟨rfl, e84q, (by decide : 6 + 0 ≤ _), (by decide : 33 + 0 ≤ _)⟩)
      dsimp only [Pt.U, Pt.locs, Pt.cells, Pt.slots] at X85 l85 y85 z85 st85 hQ85
      obtain rfl : k85 = 6 := y85; obtain rfl : n85 = 33 := z85
      obtain ⟨rfl, N85q, e85q⟩ := hQ85
      have N85 : Fr n0 L85 := Eq.mpr (congrArg (Fr n0) l85) (Fr.app N84 N85q)
      obtain ⟨_, _, ⟨T86, L86, k86, n86⟩, -, X86, ⟨Lc86, hQ86, l86, y86, z86⟩, st86⟩ := Jvm.LawKit.callS X85 hx (y := (⟨"com/example/causeline/causeline/core/FilingPastPinLaw", "in", "([JIIIJ)I"⟩ : MethodName)) hown (mvT hZ (hw _ (List.mem_of_getElem? (i := 97) rfl))) (mvT hZ (hw _ (List.mem_of_getElem? (i := 98) rfl))) (mvT hZ (hw _ (List.mem_of_getElem? (i := 3) rfl))) (mvT hZ (hw _ (List.mem_of_getElem? (i := 99) rfl))) (by decide) (backOf (W := 1) (rmIn3 l Z a0 hw [] b3 (Int32.ofNat dn) (0 : Int32) vq y14_0 y16_1 y16_2 y15_3 k3 T72.heap n0 Z72 c73) hZ (hw _ (List.mem_of_getElem? (i := 99) rfl)) (hw _ (List.mem_of_getElem? (i := 3) rfl)) (by decide) (by decide)) (g := (mkF m 255 #[.val (.long va_), .second, .val (.long vb_), .second, .val (.long vc_), .second, .val (.long ve_), .second, .val (.long vq), .second, .val (.int vctl), .val (.int (0 : Int32)), .val (.int (Int32.ofNat dn)), .val (.ref b3), .val (.ref b17), .val (.ref b43), .val (.int (Int32.ofNat (own_bs (own_g [] vq) 4 (if dn = 0 then 0 else dn) (if dn = 0 then 0 else 0)))), .unset] [(.long vq), (.int (0 : Int32)), (.int (Int32.ofNat dn)), (.int (3 : Int32)), (.ref b3), (.int ((((Int32.ofNat dn) + (own_in0 b3 (Int32.ofNat dn) (0 : Int32) vq y14_0 y16_1 y16_2 y15_3)) + (own_in1 b3 (Int32.ofNat dn) (0 : Int32) vq y14_0 y16_1 y16_2 y15_3)) + (own_in2 b3 (Int32.ofNat dn) (0 : Int32) vq y14_0 y16_1 y16_2 y15_3)))])) rfl (by rw [hml]; rfl) (argsL := [(.ref b3), (.int (3 : Int32)), (.int (Int32.ofNat dn)), (.int (0 : Int32)), (.long vq)]) (rest := [(.int ((((Int32.ofNat dn) + (own_in0 b3 (Int32.ofNat dn) (0 : Int32) vq y14_0 y16_1 y16_2 y15_3)) + (own_in1 b3 (Int32.ofNat dn) (0 : Int32) vq y14_0 y16_1 y16_2 y15_3)) + (own_in2 b3 (Int32.ofNat dn) (0 : Int32) vq y14_0 y16_1 y16_2 y15_3)))]) (lenOf pd_7 rfl) rfl (by show 2 * 0 + _ ≤ _; exact Nat.le_of_eq rfl) (hb hby at_255) (fun _ _ => ⟨rfl, e85q, (by decide : 6 + 0 ≤ _), (by decide : 33 + 0 ≤ _)⟩)
      dsimp only [Pt.U, Pt.locs, Pt.cells, Pt.slots] at X86 l86 y86 z86 st86 hQ86
      obtain rfl : k86 = 6 := y86; obtain rfl : n86 = 33 := z86
      obtain ⟨rfl, N86q, e86q⟩ := hQ86
      have N86 : Fr n0 L86 := Eq.mpr (congrArg (Fr n0) l86) (Fr.app N85 N86q)
      obtain ⟨fs, hr, hrun, hended, hW, hsame⟩ := X86.leave (v := some (.int (1 : Int32))) (fun h => by rw [Bd.returns] at h; cases h) (hlocks := BodyLoose.notSynchronized Bd)
      refine ⟨_, _, pre81 _ ?_, hrun, hended, _, _, rfl, ?_, ⟨_, rfl⟩, hW, hsame.mono (by decide) (by decide)⟩
      ·
        show Steps p.tables e below (T72.setTop (mkF m 202 #[.val (.long va_), .second, .val (.long vb_), .second, .val (.long vc_), .second, .val (.long ve_), .second, .val (.long vq), .second, .val (.int vctl), .val (.int (0 : Int32)), .val (.int (Int32.ofNat dn)), .val (.ref b3), .val (.ref b17), .val (.ref b43), .val (.int (Int32.ofNat (own_bs (own_g [] vq) 4 (if dn = 0 then 0 else dn) (if dn = 0 then 0 else 0)))), .unset] [(.int (0 : Int32)), (.int (Int32.ofNat dn))])) _
        refine XS.icmpNo X72.here hx rfl (hb hby at_202) rfl (tlt (hc82 : (Int32.ofNat dn) < (0 : Int32))).2.1 ?_
        show Steps p.tables e below (T72.setTop (mkF m 205 #[.val (.long va_), .second, .val (.long vb_), .second, .val (.long vc_), .second, .val (.long ve_), .second, .val (.long vq), .second, .val (.int vctl), .val (.int (0 : Int32)), .val (.int (Int32.ofNat dn)), .val (.ref b3), .val (.ref b17), .val (.ref b43), .val (.int (Int32.ofNat (own_bs (own_g [] vq) 4 (if dn = 0 then 0 else dn) (if dn = 0 then 0 else 0)))), .unset] [])) _
        refine XS.iload X72.here hx rfl (hb hby at_205) rfl ?_
        show Steps p.tables e below (T72.setTop (mkF m 207 #[.val (.long va_), .second, .val (.long vb_), .second, .val (.long vc_), .second, .val (.long ve_), .second, .val (.long vq), .second, .val (.int vctl), .val (.int (0 : Int32)), .val (.int (Int32.ofNat dn)), .val (.ref b3), .val (.ref b17), .val (.ref b43), .val (.int (Int32.ofNat (own_bs (own_g [] vq) 4 (if dn = 0 then 0 else dn) (if dn = 0 then 0 else 0)))), .unset] [(.int (Int32.ofNat dn))])) _
        refine XS.aload X72.here hx rfl (hb hby at_207) rfl rfl ?_
        show Steps p.tables e below (T72.setTop (mkF m 209 #[.val (.long va_), .second, .val (.long vb_), .second, .val (.long vc_), .second, .val (.long ve_), .second, .val (.long vq), .second, .val (.int vctl), .val (.int (0 : Int32)), .val (.int (Int32.ofNat dn)), .val (.ref b3), .val (.ref b17), .val (.ref b43), .val (.int (Int32.ofNat (own_bs (own_g [] vq) 4 (if dn = 0 then 0 else dn) (if dn = 0 then 0 else 0)))), .unset] [(.ref b3), (.int (Int32.ofNat dn))])) _
        refine XS.iconst X72.here hx rfl (hb hby at_209) ?_
        show Steps p.tables e below (T72.setTop (mkF m 210 #[.val (.long va_), .second, .val (.long vb_), .second, .val (.long vc_), .second, .val (.long ve_), .second, .val (.long vq), .second, .val (.int vctl), .val (.int (0 : Int32)), .val (.int (Int32.ofNat dn)), .val (.ref b3), .val (.ref b17), .val (.ref b43), .val (.int (Int32.ofNat (own_bs (own_g [] vq) 4 (if dn = 0 then 0 else dn) (if dn = 0 then 0 else 0)))), .unset] [(.int (0 : Int32)), (.ref b3), (.int (Int32.ofNat dn))])) _
        refine XS.iload X72.here hx rfl (hb hby at_210) rfl ?_
        show Steps p.tables e below (T72.setTop (mkF m 212 #[.val (.long va_), .second, .val (.long vb_), .second, .val (.long vc_), .second, .val (.long ve_), .second, .val (.long vq), .second, .val (.int vctl), .val (.int (0 : Int32)), .val (.int (Int32.ofNat dn)), .val (.ref b3), .val (.ref b17), .val (.ref b43), .val (.int (Int32.ofNat (own_bs (own_g [] vq) 4 (if dn = 0 then 0 else dn) (if dn = 0 then 0 else 0)))), .unset] [(.int (Int32.ofNat dn)), (.int (0 : Int32)), (.ref b3), (.int (Int32.ofNat dn))])) _
        refine XS.iload X72.here hx rfl (hb hby at_212) rfl ?_
        show Steps p.tables e below (T72.setTop (mkF m 214 #[.val (.long va_), .second, .val (.long vb_), .second, .val (.long vc_), .second, .val (.long ve_), .second, .val (.long vq), .second, .val (.int vctl), .val (.int (0 : Int32)), .val (.int (Int32.ofNat dn)), .val (.ref b3), .val (.ref b17), .val (.ref b43), .val (.int (Int32.ofNat (own_bs (own_g [] vq) 4 (if dn = 0 then 0 else dn) (if dn = 0 then 0 else 0)))), .unset] [(.int (0 : Int32)), (.int (Int32.ofNat dn)), (.int (0 : Int32)), (.ref b3), (.int (Int32.ofNat dn))])) _
        refine XS.lload X72.here hx rfl (hb hby at_214) rfl ?_
        show Steps p.tables e below (T72.setTop (mkF m 216 #[.val (.long va_), .second, .val (.long vb_), .second, .val (.long vc_), .second, .val (.long ve_), .second, .val (.long vq), .second, .val (.int vctl), .val (.int (0 : Int32)), .val (.int (Int32.ofNat dn)), .val (.ref b3), .val (.ref b17), .val (.ref b43), .val (.int (Int32.ofNat (own_bs (own_g [] vq) 4 (if dn = 0 then 0 else dn) (if dn = 0 then 0 else 0)))), .unset] [(.long vq), (.int (0 : Int32)), (.int (Int32.ofNat dn)), (.int (0 : Int32)), (.ref b3), (.int (Int32.ofNat dn))])) _
        refine st83 _ ?_
        show Steps p.tables e below (T83.setTop (mkF m 219 #[.val (.long va_), .second, .val (.long vb_), .second, .val (.long vc_), .second, .val (.long ve_), .second, .val (.long vq), .second, .val (.int vctl), .val (.int (0 : Int32)), .val (.int (Int32.ofNat dn)), .val (.ref b3), .val (.ref b17), .val (.ref b43), .val (.int (Int32.ofNat (own_bs (own_g [] vq) 4 (if dn = 0 then 0 else dn) (if dn = 0 then 0 else 0)))), .unset] [(.int (own_in0 b3 (Int32.ofNat dn) (0 : Int32) vq y14_0 y16_1 y16_2 y15_3)), (.int (Int32.ofNat dn))])) _
        refine XS.iadd X83.here hx rfl (hb hby at_219) rfl ?_
        show Steps p.tables e below (T83.setTop (mkF m 220 #[.val (.long va_), .second, .val (.long vb_), .second, .val (.long vc_), .second, .val (.long ve_), .second, .val (.long vq), .second, .val (.int vctl), .val (.int (0 : Int32)), .val (.int (Int32.ofNat dn)), .val (.ref b3), .val (.ref b17), .val (.ref b43), .val (.int (Int32.ofNat (own_bs (own_g [] vq) 4 (if dn = 0 then 0 else dn) (if dn = 0 then 0 else 0)))), .unset] [(.int ((Int32.ofNat dn) + (own_in0 b3 (Int32.ofNat dn) (0 : Int32) vq y14_0 y16_1 y16_2 y15_3)))])) _
        refine XS.aload X83.here hx rfl (hb hby at_220) rfl rfl ?_
        show Steps p.tables e below (T83.setTop (mkF m 222 #[.val (.long va_), .second, .val (.long vb_), .second, .val (.long vc_), .second, .val (.long ve_), .second, .val (.long vq), .second, .val (.int vctl), .val (.int (0 : Int32)), .val (.int (Int32.ofNat dn)), .val (.ref b3), .val (.ref b17), .val (.ref b43), .val (.int (Int32.ofNat (own_bs (own_g [] vq) 4 (if dn = 0 then 0 else dn) (if dn = 0 then 0 else 0)))), .unset] [(.ref b3), (.int ((Int32.ofNat dn) + (own_in0 b3 (Int32.ofNat dn) (0 : Int32) vq y14_0 y16_1 y16_2 y15_3)))])) _
        refine XS.iconst X83.here hx rfl (hb hby at_222) ?_
        show Steps p.tables e below (T83.setTop (mkF m 223 #[.val (.long va_), .second, .val (.long vb_), .second, .val (.long vc_), .second, .val (.long ve_), .second, .val (.long vq), .second, .val (.int vctl), .val (.int (0 : Int32)), .val (.int (Int32.ofNat dn)), .val (.ref b3), .val (.ref b17), .val (.ref b43), .val (.int (Int32.ofNat (own_bs (own_g [] vq) 4 (if dn = 0 then 0 else dn) (if dn = 0 then 0 else 0)))), .unset] [(.int (1 : Int32)), (.ref b3), (.int ((Int32.ofNat dn) + (own_in0 b3 (Int32.ofNat dn) (0 : Int32) vq y14_0 y16_1 y16_2 y15_3)))])) _
        refine XS.iload X83.here hx rfl (hb hby at_223) rfl ?_
        show Steps p.tables e below (T83.setTop (mkF m 225 #[.val (.long va_), .second, .val (.long vb_), .second, .val (.long vc_), .second, .val (.long ve_), .second, .val (.long vq), .second, .val (.int vctl), .val (.int (0 : Int32)), .val (.int (Int32.ofNat dn)), .val (.ref b3), .val (.ref b17), .val (.ref b43), .val (.int (Int32.ofNat (own_bs (own_g [] vq) 4 (if dn = 0 then 0 else dn) (if dn = 0 then 0 else 0)))), .unset] [(.int (Int32.ofNat dn)), (.int (1 : Int32)), (.ref b3), (.int ((Int32.ofNat dn) + (own_in0 b3 (Int32.ofNat dn) (0 : Int32) vq y14_0 y16_1 y16_2 y15_3)))])) _
        refine XS.iload X83.here hx rfl (hb hby at_225) rfl ?_
        show Steps p.tables e below (T83.setTop (mkF m 227 #[.val (.long va_), .second, .val (.long vb_), .second, .val (.long vc_), .second, .val (.long ve_), .second, .val (.long vq), .second, .val (.int vctl), .val (.int (0 : Int32)), .val (.int (Int32.ofNat dn)), .val (.ref b3), .val (.ref b17), .val (.ref b43), .val (.int (Int32.ofNat (own_bs (own_g [] vq) 4 (if dn = 0 then 0 else dn) (if dn = 0 then 0 else 0)))), .unset] [(.int (0 : Int32)), (.int (Int32.ofNat dn)), (.int (1 : Int32)), (.ref b3), (.int ((Int32.ofNat dn) + (own_in0 b3 (Int32.ofNat dn) (0 : Int32) vq y14_0 y16_1 y16_2 y15_3)))])) _
        refine XS.lload X83.here hx rfl (hb hby at_227) rfl ?_
        show Steps p.tables e below (T83.setTop (mkF m 229 #[.val (.long va_), .second, .val (.long vb_), .second, .val (.long vc_), .second, .val (.long ve_), .second, .val (.long vq), .second, .val (.int vctl), .val (.int (0 : Int32)), .val (.int (Int32.ofNat dn)), .val (.ref b3), .val (.ref b17), .val (.ref b43), .val (.int (Int32.ofNat (own_bs (own_g [] vq) 4 (if dn = 0 then 0 else dn) (if dn = 0 then 0 else 0)))), .unset] [(.long vq), (.int (0 : Int32)), (.int (Int32.ofNat dn)), (.int (1 : Int32)), (.ref b3), (.int ((Int32.ofNat dn) + (own_in0 b3 (Int32.ofNat dn) (0 : Int32) vq y14_0 y16_1 y16_2 y15_3)))])) _
        refine st84 _ ?_
        show Steps p.tables e below (T84.setTop (mkF m 232 #[.val (.long va_), .second, .val (.long vb_), .second, .val (.long vc_), .second, .val (.long ve_), .second, .val (.long vq), .second, .val (.int vctl), .val (.int (0 : Int32)), .val (.int (Int32.ofNat dn)), .val (.ref b3), .val (.ref b17), .val (.ref b43), .val (.int (Int32.ofNat (own_bs (own_g [] vq) 4 (if dn = 0 then 0 else dn) (if dn = 0 then 0 else 0)))), .unset] [(.int (own_in1 b3 (Int32.ofNat dn) (0 : Int32) vq y14_0 y16_1 y16_2 y15_3)), (.int ((Int32.ofNat dn) + (own_in0 b3 (Int32.ofNat dn) (0 : Int32) vq y14_0 y16_1 y16_2 y15_3)))])) _
        refine XS.iadd X84.here hx rfl (hb hby at_232) rfl ?_
        show Steps p.tables e below (T84.setTop (mkF m 233 #[.val (.long va_), .second, .val (.long vb_), .second, .val (.long vc_), .second, .val (.long ve_), .second, .val (.long vq), .second, .val (.int vctl), .val (.int (0 : Int32)), .val (.int (Int32.ofNat dn)), .val (.ref b3), .val (.ref b17), .val (.ref b43), .val (.int (Int32.ofNat (own_bs (own_g [] vq) 4 (if dn = 0 then 0 else dn) (if dn = 0 then 0 else 0)))), .unset] [(.int (((Int32.ofNat dn) + (own_in0 b3 (Int32.ofNat dn) (0 : Int32) vq y14_0 y16_1 y16_2 y15_3)) + (own_in1 b3 (Int32.ofNat dn) (0 : Int32) vq y14_0 y16_1 y16_2 y15_3)))])) _
        refine XS.aload X84.here hx rfl (hb hby at_233) rfl rfl ?_
        show Steps p.tables e below (T84.setTop (mkF m 235 #[.val (.long va_), .second, .val (.long vb_), .second, .val (.long vc_), .second, .val (.long ve_), .second, .val (.long vq), .second, .val (.int vctl), .val (.int (0 : Int32)), .val (.int (Int32.ofNat dn)), .val (.ref b3), .val (.ref b17), .val (.ref b43), .val (.int (Int32.ofNat (own_bs (own_g [] vq) 4 (if dn = 0 then 0 else dn) (if dn = 0 then 0 else 0)))), .unset] [(.ref b3), (.int (((Int32.ofNat dn) + (own_in0 b3 (Int32.ofNat dn) (0 : Int32) vq y14_0 y16_1 y16_2 y15_3)) + (own_in1 b3 (Int32.ofNat dn) (0 : Int32) vq y14_0 y16_1 y16_2 y15_3)))])) _
        refine XS.iconst X84.here hx rfl (hb hby at_235) ?_
        show Steps p.tables e below (T84.setTop (mkF m 236 #[.val (.long va_), .second, .val (.long vb_), .second, .val (.long vc_), .second, .val (.long ve_), .second, .val (.long vq), .second, .val (.int vctl), .val (.int (0 : Int32)), .val (.int (Int32.ofNat dn)), .val (.ref b3), .val (.ref b17), .val (.ref b43), .val (.int (Int32.ofNat (own_bs (own_g [] vq) 4 (if dn = 0 then 0 else dn) (if dn = 0 then 0 else 0)))), .unset] [(.int (2 : Int32)), (.ref b3), (.int (((Int32.ofNat dn) + (own_in0 b3 (Int32.ofNat dn) (0 : Int32) vq y14_0 y16_1 y16_2 y15_3)) + (own_in1 b3 (Int32.ofNat dn) (0 : Int32) vq y14_0 y16_1 y16_2 y15_3)))])) _
        refine XS.iload X84.here hx rfl (hb hby at_236) rfl ?_
        show Steps p.tables e below (T84.setTop (mkF m 238 #[.val (.long va_), .second, .val (.long vb_), .second, .val (.long vc_), .second, .val (.long ve_), .second, .val (.long vq), .second, .val (.int vctl), .val (.int (0 : Int32)), .val (.int (Int32.ofNat dn)), .val (.ref b3), .val (.ref b17), .val (.ref b43), .val (.int (Int32.ofNat (own_bs (own_g [] vq) 4 (if dn = 0 then 0 else dn) (if dn = 0 then 0 else 0)))), .unset] [(.int (Int32.ofNat dn)), (.int (2 : Int32)), (.ref b3), (.int (((Int32.ofNat dn) + (own_in0 b3 (Int32.ofNat dn) (0 : Int32) vq y14_0 y16_1 y16_2 y15_3)) + (own_in1 b3 (Int32.ofNat dn) (0 : Int32) vq y14_0 y16_1 y16_2 y15_3)))])) _
        refine XS.iload X84.here hx rfl (hb hby at_238) rfl ?_
        show Steps p.tables e below (T84.setTop (mkF m 240 #[.val (.long va_), .second, .val (.long vb_), .second, .val (.long vc_), .second, .val (.long ve_), .second, .val (.long vq), .second, .val (.int vctl), .val (.int (0 : Int32)), .val (.int (Int32.ofNat dn)), .val (.ref b3), .val (.ref b17), .val (.ref b43), .val (.int (Int32.ofNat (own_bs (own_g [] vq) 4 (if dn = 0 then 0 else dn) (if dn = 0 then 0 else 0)))), .unset] [(.int (0 : Int32)), (.int (Int32.ofNat dn)), (.int (2 : Int32)), (.ref b3), (.int (((Int32.ofNat dn) + (own_in0 b3 (Int32.ofNat dn) (0 : Int32) vq y14_0 y16_1 y16_2 y15_3)) + (own_in1 b3 (Int32.ofNat dn) (0 : Int32) vq y14_0 y16_1 y16_2 y15_3)))])) _
        refine XS.lload X84.here hx rfl (hb hby at_240) rfl ?_
        show Steps p.tables e below (T84.setTop (mkF m 242 #[.val (.long va_), .second, .val (.long vb_), .second, .val (.long vc_), .second, .val (.long ve_), .second, .val (.long vq), .second, .val (.int vctl), .val (.int (0 : Int32)), .val (.int (Int32.ofNat dn)), .val (.ref b3), .val (.ref b17), .val (.ref b43), .val (.int (Int32.ofNat (own_bs (own_g [] vq) 4 (if dn = 0 then 0 else dn) (if dn = 0 then 0 else 0)))), .unset] [(.long vq), (.int (0 : Int32)), (.int (Int32.ofNat dn)), (.int (2 : Int32)), (.ref b3), (.int (((Int32.ofNat dn) + (own_in0 b3 (Int32.ofNat dn) (0 : Int32) vq y14_0 y16_1 y16_2 y15_3)) + (own_in1 b3 (Int32.ofNat dn) (0 : Int32) vq y14_0 y16_1 y16_2 y15_3)))])) _
        refine st85 _ ?_
        show Steps p.tables e below (T85.setTop (mkF m 245 #[.val (.long va_), .second, .val (.long vb_), .second, .val (.long vc_), .second, .val (.long ve_), .second, .val (.long vq), .second, .val (.int vctl), .val (.int (0 : Int32)), .val (.int (Int32.ofNat dn)), .val (.ref b3), .val (.ref b17), .val (.ref b43), .val (.int (Int32.ofNat (own_bs (own_g [] vq) 4 (if dn = 0 then 0 else dn) (if dn = 0 then 0 else 0)))), .unset] [(.int (own_in2 b3 (Int32.ofNat dn) (0 : Int32) vq y14_0 y16_1 y16_2 y15_3)), (.int (((Int32.ofNat dn) + (own_in0 b3 (Int32.ofNat dn) (0 : Int32) vq y14_0 y16_1 y16_2 y15_3)) + (own_in1 b3 (Int32.ofNat dn) (0 : Int32) vq y14_0 y16_1 y16_2 y15_3)))])) _
        refine XS.iadd X85.here hx rfl (hb hby at_245) rfl ?_
        show Steps p.tables e below (T85.setTop (mkF m 246 #[.val (.long va_), .second, .val (.long vb_), .second, .val (.long vc_), .second, .val (.long ve_), .second, .val (.long vq), .second, .val (.int vctl), .val (.int (0 : Int32)), .val (.int (Int32.ofNat dn)), .val (.ref b3), .val (.ref b17), .val (.ref b43), .val (.int (Int32.ofNat (own_bs (own_g [] vq) 4 (if dn = 0 then 0 else dn) (if dn = 0 then 0 else 0)))), .unset] [(.int ((((Int32.ofNat dn) + (own_in0 b3 (Int32.ofNat dn) (0 : Int32) vq y14_0 y16_1 y16_2 y15_3)) + (own_in1 b3 (Int32.ofNat dn) (0 : Int32) vq y14_0 y16_1 y16_2 y15_3)) + (own_in2 b3 (Int32.ofNat dn) (0 : Int32) vq y14_0 y16_1 y16_2 y15_3)))])) _
        refine XS.aload X85.here hx rfl (hb hby at_246) rfl rfl ?_
        show Steps p.tables e below (T85.setTop (mkF m 248 #[.val (.long va_), .second, .val (.long vb_), .second, .val (.long vc_), .second, .val (.long ve_), .second, .val (.long vq), .second, .val (.int vctl), .val (.int (0 : Int32)), .val (.int (Int32.ofNat dn)), .val (.ref b3), .val (.ref b17), .val (.ref b43), .val (.int (Int32.ofNat (own_bs (own_g [] vq) 4 (if dn = 0 then 0 else dn) (if dn = 0 then 0 else 0)))), .unset] [(.ref b3), (.int ((((Int32.ofNat dn) + (own_in0 b3 (Int32.ofNat dn) (0 : Int32) vq y14_0 y16_1 y16_2 y15_3)) + (own_in1 b3 (Int32.ofNat dn) (0 : Int32) vq y14_0 y16_1 y16_2 y15_3)) + (own_in2 b3 (Int32.ofNat dn) (0 : Int32) vq y14_0 y16_1 y16_2 y15_3)))])) _
        refine XS.iconst X85.here hx rfl (hb hby at_248) ?_
        show Steps p.tables e below (T85.setTop (mkF m 249 #[.val (.long va_), .second, .val (.long vb_), .second, .val (.long vc_), .second, .val (.long ve_), .second, .val (.long vq), .second, .val (.int vctl), .val (.int (0 : Int32)), .val (.int (Int32.ofNat dn)), .val (.ref b3), .val (.ref b17), .val (.ref b43), .val (.int (Int32.ofNat (own_bs (own_g [] vq) 4 (if dn = 0 then 0 else dn) (if dn = 0 then 0 else 0)))), .unset] [(.int (3 : Int32)), (.ref b3), (.int ((((Int32.ofNat dn) + (own_in0 b3 (Int32.ofNat dn) (0 : Int32) vq y14_0 y16_1 y16_2 y15_3)) + (own_in1 b3 (Int32.ofNat dn) (0 : Int32) vq y14_0 y16_1 y16_2 y15_3)) + (own_in2 b3 (Int32.ofNat dn) (0 : Int32) vq y14_0 y16_1 y16_2 y15_3)))])) _
        refine XS.iload X85.here hx rfl (hb hby at_249) rfl ?_
        show Steps p.tables e below (T85.setTop (mkF m 251 #[.val (.long va_), .second, .val (.long vb_), .second, .val (.long vc_), .second, .val (.long ve_), .second, .val (.long vq), .second, .val (.int vctl), .val (.int (0 : Int32)), .val (.int (Int32.ofNat dn)), .val (.ref b3), .val (.ref b17), .val (.ref b43), .val (.int (Int32.ofNat (own_bs (own_g [] vq) 4 (if dn = 0 then 0 else dn) (if dn = 0 then 0 else 0)))), .unset] [(.int (Int32.ofNat dn)), (.int (3 : Int32)), (.ref b3), (.int ((((Int32.ofNat dn) + (own_in0 b3 (Int32.ofNat dn) (0 : Int32) vq y14_0 y16_1 y16_2 y15_3)) + (own_in1 b3 (Int32.ofNat dn) (0 : Int32) vq y14_0 y16_1 y16_2 y15_3)) + (own_in2 b3 (Int32.ofNat dn) (0 : Int32) vq y14_0 y16_1 y16_2 y15_3)))])) _
        refine XS.iload X85.here hx rfl (hb hby at_251) rfl ?_
        show Steps p.tables e below (T85.setTop (mkF m 253 #[.val (.long va_), .second, .val (.long vb_), .second, .val (.long vc_), .second, .val (.long ve_), .second, .val (.long vq), .second, .val (.int vctl), .val (.int (0 : Int32)), .val (.int (Int32.ofNat dn)), .val (.ref b3), .val (.ref b17), .val (.ref b43), .val (.int (Int32.ofNat (own_bs (own_g [] vq) 4 (if dn = 0 then 0 else dn) (if dn = 0 then 0 else 0)))), .unset] [(.int (0 : Int32)), (.int (Int32.ofNat dn)), (.int (3 : Int32)), (.ref b3), (.int ((((Int32.ofNat dn) + (own_in0 b3 (Int32.ofNat dn) (0 : Int32) vq y14_0 y16_1 y16_2 y15_3)) + (own_in1 b3 (Int32.ofNat dn) (0 : Int32) vq y14_0 y16_1 y16_2 y15_3)) + (own_in2 b3 (Int32.ofNat dn) (0 : Int32) vq y14_0 y16_1 y16_2 y15_3)))])) _
        refine XS.lload X85.here hx rfl (hb hby at_253) rfl ?_
        show Steps p.tables e below (T85.setTop (mkF m 255 #[.val (.long va_), .second, .val (.long vb_), .second, .val (.long vc_), .second, .val (.long ve_), .second, .val (.long vq), .second, .val (.int vctl), .val (.int (0 : Int32)), .val (.int (Int32.ofNat dn)), .val (.ref b3), .val (.ref b17), .val (.ref b43), .val (.int (Int32.ofNat (own_bs (own_g [] vq) 4 (if dn = 0 then 0 else dn) (if dn = 0 then 0 else 0)))), .unset] [(.long vq), (.int (0 : Int32)), (.int (Int32.ofNat dn)), (.int (3 : Int32)), (.ref b3), (.int ((((Int32.ofNat dn) + (own_in0 b3 (Int32.ofNat dn) (0 : Int32) vq y14_0 y16_1 y16_2 y15_3)) + (own_in1 b3 (Int32.ofNat dn) (0 : Int32) vq y14_0 y16_1 y16_2 y15_3)) + (own_in2 b3 (Int32.ofNat dn) (0 : Int32) vq y14_0 y16_1 y16_2 y15_3)))])) _
        refine st86 _ ?_
        show Steps p.tables e below (T86.setTop (mkF m 258 #[.val (.long va_), .second, .val (.long vb_), .second, .val (.long vc_), .second, .val (.long ve_), .second, .val (.long vq), .second, .val (.int vctl), .val (.int (0 : Int32)), .val (.int (Int32.ofNat dn)), .val (.ref b3), .val (.ref b17), .val (.ref b43), .val (.int (Int32.ofNat (own_bs (own_g [] vq) 4 (if dn = 0 then 0 else dn) (if dn = 0 then 0 else 0)))), .unset] [(.int (own_in3 b3 (Int32.ofNat dn) (0 : Int32) vq y14_0 y16_1 y16_2 y15_3)), (.int ((((Int32.ofNat dn) + (own_in0 b3 (Int32.ofNat dn) (0 : Int32) vq y14_0 y16_1 y16_2 y15_3)) + (own_in1 b3 (Int32.ofNat dn) (0 : Int32) vq y14_0 y16_1 y16_2 y15_3)) + (own_in2 b3 (Int32.ofNat dn) (0 : Int32) vq y14_0 y16_1 y16_2 y15_3)))])) _
        refine XS.iadd X86.here hx rfl (hb hby at_258) rfl ?_
        show Steps p.tables e below (T86.setTop (mkF m 259 #[.val (.long va_), .second, .val (.long vb_), .second, .val (.long vc_), .second, .val (.long ve_), .second, .val (.long vq), .second, .val (.int vctl), .val (.int (0 : Int32)), .val (.int (Int32.ofNat dn)), .val (.ref b3), .val (.ref b17), .val (.ref b43), .val (.int (Int32.ofNat (own_bs (own_g [] vq) 4 (if dn = 0 then 0 else dn) (if dn = 0 then 0 else 0)))), .unset] [(.int (((((Int32.ofNat dn) + (own_in0 b3 (Int32.ofNat dn) (0 : Int32) vq y14_0 y16_1 y16_2 y15_3)) + (own_in1 b3 (Int32.ofNat dn) (0 : Int32) vq y14_0 y16_1 y16_2 y15_3)) + (own_in2 b3 (Int32.ofNat dn) (0 : Int32) vq y14_0 y16_1 y16_2 y15_3)) + (own_in3 b3 (Int32.ofNat dn) (0 : Int32) vq y14_0 y16_1 y16_2 y15_3)))])) _
        refine XS.goto X86.here hx rfl (pc0 := 259) (pc' := 263) rfl (hb hby at_259) (by decide) (by decide) ?_
        show Steps p.tables e below (T86.setTop (mkF m 263 #[.val (.long va_), .second, .val (.long vb_), .second, .val (.long vc_), .second, .val (.long ve_), .second, .val (.long vq), .second, .val (.int vctl), .val (.int (0 : Int32)), .val (.int (Int32.ofNat dn)), .val (.ref b3), .val (.ref b17), .val (.ref b43), .val (.int (Int32.ofNat (own_bs (own_g [] vq) 4 (if dn = 0 then 0 else dn) (if dn = 0 then 0 else 0)))), .unset] [(.int (((((Int32.ofNat dn) + (own_in0 b3 (Int32.ofNat dn) (0 : Int32) vq y14_0 y16_1 y16_2 y15_3)) + (own_in1 b3 (Int32.ofNat dn) (0 : Int32) vq y14_0 y16_1 y16_2 y15_3)) + (own_in2 b3 (Int32.ofNat dn) (0 : Int32) vq y14_0 y16_1 y16_2 y15_3)) + (own_in3 b3 (Int32.ofNat dn) (0 : Int32) vq y14_0 y16_1 y16_2 y15_3)))])) _
        refine XS.istore X86.here hx rfl (hb hby at_263) rfl (l' := #[.val (.long va_), .second, .val (.long vb_), .second, .val (.long vc_), .second, .val (.long ve_), .second, .val (.long vq), .second, .val (.int vctl), .val (.int (0 : Int32)), .val (.int (Int32.ofNat dn)), .val (.ref b3), .val (.ref b17), .val (.ref b43), .val (.int (Int32.ofNat (own_bs (own_g [] vq) 4 (if dn = 0 then 0 else dn) (if dn = 0 then 0 else 0)))), .val (.int (((((Int32.ofNat dn) + (own_in0 b3 (Int32.ofNat dn) (0 : Int32) vq y14_0 y16_1 y16_2 y15_3)) + (own_in1 b3 (Int32.ofNat dn) (0 : Int32) vq y14_0 y16_1 y16_2 y15_3)) + (own_in2 b3 (Int32.ofNat dn) (0 : Int32) vq y14_0 y16_1 y16_2 y15_3)) + (own_in3 b3 (Int32.ofNat dn) (0 : Int32) vq y14_0 y16_1 y16_2 y15_3)))]) rfl ?_
        show Steps p.tables e below (T86.setTop (mkF m 265 #[.val (.long va_), .second, .val (.long vb_), .second, .val (.long vc_), .second, .val (.long ve_), .second, .val (.long vq), .second, .val (.int vctl), .val (.int (0 : Int32)), .val (.int (Int32.ofNat dn)), .val (.ref b3), .val (.ref b17), .val (.ref b43), .val (.int (Int32.ofNat (own_bs (own_g [] vq) 4 (if dn = 0 then 0 else dn) (if dn = 0 then 0 else 0)))), .val (.int (((((Int32.ofNat dn) + (own_in0 b3 (Int32.ofNat dn) (0 : Int32) vq y14_0 y16_1 y16_2 y15_3)) + (own_in1 b3 (Int32.ofNat dn) (0 : Int32) vq y14_0 y16_1 y16_2 y15_3)) + (own_in2 b3 (Int32.ofNat dn) (0 : Int32) vq y14_0 y16_1 y16_2 y15_3)) + (own_in3 b3 (Int32.ofNat dn) (0 : Int32) vq y14_0 y16_1 y16_2 y15_3)))] [])) _
        refine XS.iload X86.here hx rfl (hb hby at_265) rfl ?_
        show Steps p.tables e below (T86.setTop (mkF m 267 #[.val (.long va_), .second, .val (.long vb_), .second, .val (.long vc_), .second, .val (.long ve_), .second, .val (.long vq), .second, .val (.int vctl), .val (.int (0 : Int32)), .val (.int (Int32.ofNat dn)), .val (.ref b3), .val (.ref b17), .val (.ref b43), .val (.int (Int32.ofNat (own_bs (own_g [] vq) 4 (if dn = 0 then 0 else dn) (if dn = 0 then 0 else 0)))), .val (.int (((((Int32.ofNat dn) + (own_in0 b3 (Int32.ofNat dn) (0 : Int32) vq y14_0 y16_1 y16_2 y15_3)) + (own_in1 b3 (Int32.ofNat dn) (0 : Int32) vq y14_0 y16_1 y16_2 y15_3)) + (own_in2 b3 (Int32.ofNat dn) (0 : Int32) vq y14_0 y16_1 y16_2 y15_3)) + (own_in3 b3 (Int32.ofNat dn) (0 : Int32) vq y14_0 y16_1 y16_2 y15_3)))] [(.int (Int32.ofNat (own_bs (own_g [] vq) 4 (if dn = 0 then 0 else dn) (if dn = 0 then 0 else 0))))])) _
        refine XS.iload X86.here hx rfl (hb hby at_267) rfl ?_
        show Steps p.tables e below (T86.setTop (mkF m 269 #[.val (.long va_), .second, .val (.long vb_), .second, .val (.long vc_), .second, .val (.long ve_), .second, .val (.long vq), .second, .val (.int vctl), .val (.int (0 : Int32)), .val (.int (Int32.ofNat dn)), .val (.ref b3), .val (.ref b17), .val (.ref b43), .val (.int (Int32.ofNat (own_bs (own_g [] vq) 4 (if dn = 0 then 0 else dn) (if dn = 0 then 0 else 0)))), .val (.int (((((Int32.ofNat dn) + (own_in0 b3 (Int32.ofNat dn) (0 : Int32) vq y14_0 y16_1 y16_2 y15_3)) + (own_in1 b3 (Int32.ofNat dn) (0 : Int32) vq y14_0 y16_1 y16_2 y15_3)) + (own_in2 b3 (Int32.ofNat dn) (0 : Int32) vq y14_0 y16_1 y16_2 y15_3)) + (own_in3 b3 (Int32.ofNat dn) (0 : Int32) vq y14_0 y16_1 y16_2 y15_3)))] [(.int (((((Int32.ofNat dn) + (own_in0 b3 (Int32.ofNat dn) (0 : Int32) vq y14_0 y16_1 y16_2 y15_3)) + (own_in1 b3 (Int32.ofNat dn) (0 : Int32) vq y14_0 y16_1 y16_2 y15_3)) + (own_in2 b3 (Int32.ofNat dn) (0 : Int32) vq y14_0 y16_1 y16_2 y15_3)) + (own_in3 b3 (Int32.ofNat dn) (0 : Int32) vq y14_0 y16_1 y16_2 y15_3))), (.int (Int32.ofNat (own_bs (own_g [] vq) 4 (if dn = 0 then 0 else dn) (if dn = 0 then 0 else 0))))])) _
        refine XS.icmpNo X86.here hx rfl (hb hby at_269) rfl (teq ((own_fin0t dn hdn hc82 s01 s12 s23) : (Int32.ofNat (own_bs (own_g [] vq) 4 (if dn = 0 then 0 else dn) (if dn = 0 then 0 else 0))) = (((((Int32.ofNat dn) + (own_in0 b3 (Int32.ofNat dn) (0 : Int32) vq y14_0 y16_1 y16_2 y15_3)) + (own_in1 b3 (Int32.ofNat dn) (0 : Int32) vq y14_0 y16_1 y16_2 y15_3)) + (own_in2 b3 (Int32.ofNat dn) (0 : Int32) vq y14_0 y16_1 y16_2 y15_3)) + (own_in3 b3 (Int32.ofNat dn) (0 : Int32) vq y14_0 y16_1 y16_2 y15_3)))).2 ?_
        show Steps p.tables e below (T86.setTop (mkF m 272 #[.val (.long va_), .second, .val (.long vb_), .second, .val (.long vc_), .second, .val (.long ve_), .second, .val (.long vq), .second, .val (.int vctl), .val (.int (0 : Int32)), .val (.int (Int32.ofNat dn)), .val (.ref b3), .val (.ref b17), .val (.ref b43), .val (.int (Int32.ofNat (own_bs (own_g [] vq) 4 (if dn = 0 then 0 else dn) (if dn = 0 then 0 else 0)))), .val (.int (((((Int32.ofNat dn) + (own_in0 b3 (Int32.ofNat dn) (0 : Int32) vq y14_0 y16_1 y16_2 y15_3)) + (own_in1 b3 (Int32.ofNat dn) (0 : Int32) vq y14_0 y16_1 y16_2 y15_3)) + (own_in2 b3 (Int32.ofNat dn) (0 : Int32) vq y14_0 y16_1 y16_2 y15_3)) + (own_in3 b3 (Int32.ofNat dn) (0 : Int32) vq y14_0 y16_1 y16_2 y15_3)))] [])) _
        refine XS.iconst X86.here hx rfl (hb hby at_272) ?_
        show Steps p.tables e below (T86.setTop (mkF m 273 #[.val (.long va_), .second, .val (.long vb_), .second, .val (.long vc_), .second, .val (.long ve_), .second, .val (.long vq), .second, .val (.int vctl), .val (.int (0 : Int32)), .val (.int (Int32.ofNat dn)), .val (.ref b3), .val (.ref b17), .val (.ref b43), .val (.int (Int32.ofNat (own_bs (own_g [] vq) 4 (if dn = 0 then 0 else dn) (if dn = 0 then 0 else 0)))), .val (.int (((((Int32.ofNat dn) + (own_in0 b3 (Int32.ofNat dn) (0 : Int32) vq y14_0 y16_1 y16_2 y15_3)) + (own_in1 b3 (Int32.ofNat dn) (0 : Int32) vq y14_0 y16_1 y16_2 y15_3)) + (own_in2 b3 (Int32.ofNat dn) (0 : Int32) vq y14_0 y16_1 y16_2 y15_3)) + (own_in3 b3 (Int32.ofNat dn) (0 : Int32) vq y14_0 y16_1 y16_2 y15_3)))] [(.int (1 : Int32))])) _
        refine XS.goto X86.here hx rfl (pc0 := 273) (pc' := 277) rfl (hb hby at_273) (by decide) (by decide) ?_
        show Steps p.tables e below (T86.setTop (mkF m 277 #[.val (.long va_), .second, .val (.long vb_), .second, .val (.long vc_), .second, .val (.long ve_), .second, .val (.long vq), .second, .val (.int vctl), .val (.int (0 : Int32)), .val (.int (Int32.ofNat dn)), .val (.ref b3), .val (.ref b17), .val (.ref b43), .val (.int (Int32.ofNat (own_bs (own_g [] vq) 4 (if dn = 0 then 0 else dn) (if dn = 0 then 0 else 0)))), .val (.int (((((Int32.ofNat dn) + (own_in0 b3 (Int32.ofNat dn) (0 : Int32) vq y14_0 y16_1 y16_2 y15_3)) + (own_in1 b3 (Int32.ofNat dn) (0 : Int32) vq y14_0 y16_1 y16_2 y15_3)) + (own_in2 b3 (Int32.ofNat dn) (0 : Int32) vq y14_0 y16_1 y16_2 y15_3)) + (own_in3 b3 (Int32.ofNat dn) (0 : Int32) vq y14_0 y16_1 y16_2 y15_3)))] [(.int (1 : Int32))])) _
        exact retN X86 hx (t := .boolean) Bd.returns (by simp) (hb hby at_277) hr
      ·
        show Q0 Z va_ vb_ vc_ ve_ vq vctl vN kN h0 n0 _ T86.heap _
        rw [e86q]
        exact ⟨rfl, N86⟩
    ·
      obtain ⟨fs, hr, hrun, hended, hW, hsame⟩ := X72.leave (v := some (.int (1 : Int32))) (fun h => by rw [Bd.returns] at h; cases h) (hlocks := BodyLoose.notSynchronized Bd)
      refine ⟨_, _, pre81 _ ?_, hrun, hended, _, _, rfl, ?_, ⟨_, rfl⟩, hW, hsame.mono (by decide) (by decide)⟩
      ·
        show Steps p.tables e below (T72.setTop (mkF m 202 #[.val (.long va_), .second, .val (.long vb_), .second, .val (.long vc_), .second, .val (.long ve_), .second, .val (.long vq), .second, .val (.int vctl), .val (.int (0 : Int32)), .val (.int (Int32.ofNat dn)), .val (.ref b3), .val (.ref b17), .val (.ref b43), .val (.int (Int32.ofNat (own_bs (own_g [] vq) 4 (if dn = 0 then 0 else dn) (if dn = 0 then 0 else 0)))), .unset] [(.int (0 : Int32)), (.int (Int32.ofNat dn))])) _
        refine XS.icmpYes X72.here hx rfl (pc0 := 202) (pc' := 262) rfl (hb hby at_202) rfl (flt (hc82 : ¬ ((Int32.ofNat dn) < (0 : Int32)))).2.1 (by decide) (by decide) ?_
        show Steps p.tables e below (T72.setTop (mkF m 262 #[.val (.long va_), .second, .val (.long vb_), .second, .val (.long vc_), .second, .val (.long ve_), .second, .val (.long vq), .second, .val (.int vctl), .val (.int (0 : Int32)), .val (.int (Int32.ofNat dn)), .val (.ref b3), .val (.ref b17), .val (.ref b43), .val (.int (Int32.ofNat (own_bs (own_g [] vq) 4 (if dn = 0 then 0 else dn) (if dn = 0 then 0 else 0)))), .unset] [])) _
        refine XS.iconst X72.here hx rfl (hb hby at_262) ?_
        show Steps p.tables e below (T72.setTop (mkF m 263 #[.val (.long va_), .second, .val (.long vb_), .second, .val (.long vc_), .second, .val (.long ve_), .second, .val (.long vq), .second, .val (.int vctl), .val (.int (0 : Int32)), .val (.int (Int32.ofNat dn)), .val (.ref b3), .val (.ref b17), .val (.ref b43), .val (.int (Int32.ofNat (own_bs (own_g [] vq) 4 (if dn = 0 then 0 else dn) (if dn = 0 then 0 else 0)))), .unset] [(.int (0 : Int32))])) _
        refine XS.istore X72.here hx rfl (hb hby at_263) rfl (l' := #[.val (.long va_), .second, .val (.long vb_), .second, .val (.long vc_), .second, .val (.long ve_), .second, .val (.long vq), .second, .val (.int vctl), .val (.int (0 : Int32)), .val (.int (Int32.ofNat dn)), .val (.ref b3), .val (.ref b17), .val (.ref b43), .val (.int (Int32.ofNat (own_bs (own_g [] vq) 4 (if dn = 0 then 0 else dn) (if dn = 0 then 0 else 0)))), .val (.int (0 : Int32))]) rfl ?_
        show Steps p.tables e below (T72.setTop (mkF m 265 #[.val (.long va_), .second, .val (.long vb_), .second, .val (.long vc_), .second, .val (.long ve_), .second, .val (.long vq), .second, .val (.int vctl), .val (.int (0 : Int32)), .val (.int (Int32.ofNat dn)), .val (.ref b3), .val (.ref b17), .val (.ref b43), .val (.int (Int32.ofNat (own_bs (own_g [] vq) 4 (if dn = 0 then 0 else dn) (if dn = 0 then 0 else 0)))), .val (.int (0 : Int32))] [])) _
        refine XS.iload X72.here hx rfl (hb hby at_265) rfl ?_
        show Steps p.tables e below (T72.setTop (mkF m 267 #[.val (.long va_), .second, .val (.long vb_), .second, .val (.long vc_), .second, .val (.long ve_), .second, .val (.long vq), .second, .val (.int vctl), .val (.int (0 : Int32)), .val (.int (Int32.ofNat dn)), .val (.ref b3), .val (.ref b17), .val (.ref b43), .val (.int (Int32.ofNat (own_bs (own_g [] vq) 4 (if dn = 0 then 0 else dn) (if dn = 0 then 0 else 0)))), .val (.int (0 : Int32))] [(.int (Int32.ofNat (own_bs (own_g [] vq) 4 (if dn = 0 then 0 else dn) (if dn = 0 then 0 else 0))))])) _
        refine XS.iload X72.here hx rfl (hb hby at_267) rfl ?_
        show Steps p.tables e below (T72.setTop (mkF m 269 #[.val (.long va_), .second, .val (.long vb_), .second, .val (.long vc_), .second, .val (.long ve_), .second, .val (.long vq), .second, .val (.int vctl), .val (.int (0 : Int32)), .val (.int (Int32.ofNat dn)), .val (.ref b3), .val (.ref b17), .val (.ref b43), .val (.int (Int32.ofNat (own_bs (own_g [] vq) 4 (if dn = 0 then 0 else dn) (if dn = 0 then 0 else 0)))), .val (.int (0 : Int32))] [(.int (0 : Int32)), (.int (Int32.ofNat (own_bs (own_g [] vq) 4 (if dn = 0 then 0 else dn) (if dn = 0 then 0 else 0))))])) _
        refine XS.icmpNo X72.here hx rfl (hb hby at_269) rfl (teq ((own_fin0f dn hdn hc82 s01 s12 s23) : (Int32.ofNat (own_bs (own_g [] vq) 4 (if dn = 0 then 0 else dn) (if dn = 0 then 0 else 0))) = (0 : Int32))).2 ?_
        show Steps p.tables e below (T72.setTop (mkF m 272 #[.val (.long va_), .second, .val (.long vb_), .second, .val (.long vc_), .second, .val (.long ve_), .second, .val (.long vq), .second, .val (.int vctl), .val (.int (0 : Int32)), .val (.int (Int32.ofNat dn)), .val (.ref b3), .val (.ref b17), .val (.ref b43), .val (.int (Int32.ofNat (own_bs (own_g [] vq) 4 (if dn = 0 then 0 else dn) (if dn = 0 then 0 else 0)))), .val (.int (0 : Int32))] [])) _
        refine XS.iconst X72.here hx rfl (hb hby at_272) ?_
        show Steps p.tables e below (T72.setTop (mkF m 273 #[.val (.long va_), .second, .val (.long vb_), .second, .val (.long vc_), .second, .val (.long ve_), .second, .val (.long vq), .second, .val (.int vctl), .val (.int (0 : Int32)), .val (.int (Int32.ofNat dn)), .val (.ref b3), .val (.ref b17), .val (.ref b43), .val (.int (Int32.ofNat (own_bs (own_g [] vq) 4 (if dn = 0 then 0 else dn) (if dn = 0 then 0 else 0)))), .val (.int (0 : Int32))] [(.int (1 : Int32))])) _
        refine XS.goto X72.here hx rfl (pc0 := 273) (pc' := 277) rfl (hb hby at_273) (by decide) (by decide) ?_
        show Steps p.tables e below (T72.setTop (mkF m 277 #[.val (.long va_), .second, .val (.long vb_), .second, .val (.long vc_), .second, .val (.long ve_), .second, .val (.long vq), .second, .val (.int vctl), .val (.int (0 : Int32)), .val (.int (Int32.ofNat dn)), .val (.ref b3), .val (.ref b17), .val (.ref b43), .val (.int (Int32.ofNat (own_bs (own_g [] vq) 4 (if dn = 0 then 0 else dn) (if dn = 0 then 0 else 0)))), .val (.int (0 : Int32))] [(.int (1 : Int32))])) _
        exact retN X72 hx (t := .boolean) Bd.returns (by simp) (hb hby at_277) hr
      ·
        show Q0 Z va_ vb_ vc_ ve_ vq vctl vN kN h0 n0 _ T72.heap _
        exact ⟨rfl, N72⟩
  ·
    obtain ⟨dn, hdn, rfl⟩ := own_dn1 hdd
    obtain ⟨cl87, Ar87, q87, S87, NN87, HH87, GG87⟩ := id c55
    have hin87 : ¬ ((0 : Int32) < 0 ∨ cl87.slots.size ≤ ((0 : Int32)).toNatClampNeg) := inb_of S87 ⟨by decide, by decide⟩
    have hat87 : cl87.slots[((0 : Int32)).toNatClampNeg]? = some (.long y14_0) := HH87.at hin87 rfl
    obtain ⟨cq88, kq88, q88a, q88b, q88c⟩ := isOf hZ rfl c57
    obtain ⟨_, _, ⟨T88, L88, k88, n88⟩, -, X88, ⟨Lc88, hQ88, l88, y88, z88⟩, st88⟩ := X54.virtualBack hx (y := (⟨"com/example/causeline/causeline/core/Filing", "add", "(JLcom/example/causeline/causeline/core/Waiting;)V"⟩ : MethodName)) (z := (⟨"com/example/causeline/causeline/core/Filing", "add", "(JLcom/example/causeline/causeline/core/Waiting;)V"⟩ : MethodName)) hown (mvT hZ (hw _ (List.mem_of_getElem? (i := 61) rfl))) (mvT hZ (hw _ (List.mem_of_getElem? (i := 62) rfl))) (notFace_of_selects (args := #[]) (mvT hZ (hw _ (List.mem_of_getElem? (i := 64) rfl)))) (mvT hZ (hw _ (List.mem_of_getElem? (i := 64) rfl))) (mvT hZ (hw _ (List.mem_of_getElem? (i := 63) rfl))) (by decide) (backOf (W := 0) (rmAdd0 l Z a0 hw [] b17 y14_0 b43 vN kN (7 : Int64) T54.heap n0 Z54 c57 c58 c59 c60 c61 (VN.keep K54 nin0) f54_0 g_b17 (Ne.symm (Nat.ne_of_lt (Nat.lt_of_lt_of_le VN.lt sz_b17))) ne46) hZ (hw _ (List.mem_of_getElem? (i := 65) rfl)) (hw _ (List.mem_of_getElem? (i := 7) rfl)) (by decide) (by decide)) q88a q88c (g := (mkF m 127 #[.val (.long va_), .second, .val (.long vb_), .second, .val (.long vc_), .second, .val (.long ve_), .second, .val (.long vq), .second, .val (.int vctl), .val (.int (1 : Int32)), .val (.int (Int32.ofNat dn)), .val (.ref b3), .val (.ref b17), .val (.ref b43), .unset, .unset] [(.ref b43), (.long y14_0), (.ref b17)])) rfl (by rw [hml]; rfl) (Steps.refl _) (argsL := [(.long y14_0), (.ref b43)]) (rest := []) (lenOf pd_8 rfl) rfl (by show 2 * 0 + _ ≤ _; exact Nat.le_of_eq rfl) (hb hby at_127) (fun _ _ => ⟨rfl, rfl, (by decide : 6 + 2 ≤ _), (by decide : 33 + 8 ≤ _)⟩)
    dsimp only [Pt.U, Pt.locs, Pt.cells, Pt.slots] at X88 l88 y88 z88 st88 hQ88
    obtain rfl : k88 = 8 := y88; obtain rfl : n88 = 41 := z88
    obtain ⟨rfl, N88q, K88q, ⟨vn88, kn88, vo88, ko88, szn88, szo88, gn88, go88, nno88, fa88_0, fa88_1, fa88_2, fa88_3, fa88_4, fa88_5, fa88_6⟩⟩ := hQ88
    have N88 : Fr n0 L88 := Eq.mpr (congrArg (Fr n0) l88) (Fr.app N54 N88q)
    have Z88 : n0 ≤ T88.heap.size := Nat.le_trans Z54 K88q.1
    have c89 : Arv Z T88.heap b3 k3 .long (4 : Int32) [(.long y14_0), (.long y16_1), (.long y16_2), (.long y15_3)] (.long (0 : Int64)) := c55.keep K88q (ninS ne18 nin0)
    have c90 : Exa Z T88.heap b20 "com/example/causeline/causeline/core/CopyTable" := c56.keep K88q
    have c91 : Exa Z T88.heap b17 "com/example/causeline/causeline/core/Filing" := c57.keep K88q
    have c92 : Exa Z T88.heap b43 "com/example/causeline/causeline/core/Waiting" := c62.keep K88q
    have c93 : Fld Z T88.heap b43 "com/example/causeline/causeline/core/Waiting" "order" "J" (.long (7 : Int64)) := f54_0.keep K88q (ninS (Ne.symm ne46) nin0)
    have K88 : Keep h0 T88.heap [] := K54.trans K88q (allS (Or.inr sz_b17) all0)
    have nevn88_b3 : b3 ≠ vn88 := Nat.ne_of_lt (Nat.lt_of_lt_of_le c55.lt szn88)
    have nevo88_b3 : b3 ≠ vo88 := Nat.ne_of_lt (Nat.lt_of_lt_of_le c55.lt szo88)
    have nevn88_b20 : b20 ≠ vn88 := Nat.ne_of_lt (Nat.lt_of_lt_of_le c56.lt szn88)
    have nevo88_b20 : b20 ≠ vo88 := Nat.ne_of_lt (Nat.lt_of_lt_of_le c56.lt szo88)
    have nevn88_b17 : b17 ≠ vn88 := Nat.ne_of_lt (Nat.lt_of_lt_of_le c61.lt szn88)
    have nevo88_b17 : b17 ≠ vo88 := Nat.ne_of_lt (Nat.lt_of_lt_of_le c61.lt szo88)
    have nevn88_b43 : b43 ≠ vn88 := Nat.ne_of_lt (Nat.lt_of_lt_of_le f54_0.lt szn88)
    have nevo88_b43 : b43 ≠ vo88 := Nat.ne_of_lt (Nat.lt_of_lt_of_le f54_0.lt szo88)
    have g_vn88 := gn88
    have sz_vn88 : h0.size ≤ vn88 := Nat.le_trans K54.1 szn88
    have g_vo88 := go88
    have sz_vo88 : h0.size ≤ vo88 := Nat.le_trans K54.1 szo88
    obtain ⟨cq94, kq94, q94a, q94b, q94c⟩ := isOf hZ rfl fa88_0
    obtain ⟨_, _, ⟨T94, L94, k94, n94⟩, -, X94, ⟨Lc94, hQ94, l94, y94, z94⟩, st94⟩ := X88.virtualBack hx (y := (⟨"com/example/causeline/causeline/core/Filing", "removeBefore", "(I)I"⟩ : MethodName)) (z := (⟨"com/example/causeline/causeline/core/Filing", "removeBefore", "(I)I"⟩ : MethodName)) hown (mvT hZ (hw _ (List.mem_of_getElem? (i := 83) rfl))) (mvT hZ (hw _ (List.mem_of_getElem? (i := 84) rfl))) (notFace_of_selects (args := #[]) (mvT hZ (hw _ (List.mem_of_getElem? (i := 86) rfl)))) (mvT hZ (hw _ (List.mem_of_getElem? (i := 86) rfl))) (mvT hZ (hw _ (List.mem_of_getElem? (i := 85) rfl))) (by decide) (backOf (W := 0) (rm9 l Z a0 hw [] b17 (Int32.ofNat dn) vn88 (0 : Int32) (1 : Int32) T88.heap n0 Z88 fa88_0 fa88_1 fa88_3 fa88_4 g_b17) hZ (hw _ (List.mem_of_getElem? (i := 87) rfl)) (hw _ (List.mem_of_getElem? (i := 7) rfl)) (by decide) (by decide)) q94a q94c (g := (mkF m 185 #[.val (.long va_), .second, .val (.long vb_), .second, .val (.long vc_), .second, .val (.long ve_), .second, .val (.long vq), .second, .val (.int vctl), .val (.int (1 : Int32)), .val (.int (Int32.ofNat dn)), .val (.ref b3), .val (.ref b17), .val (.ref b43), .unset, .unset] [(.int (Int32.ofNat dn)), (.ref b17)])) rfl (by rw [hml]; rfl) (Steps.refl _) (argsL := [(.int (Int32.ofNat dn))]) (rest := []) (lenOf pd_5 rfl) rfl (by show 2 * 0 + _ ≤ _; exact Nat.le_of_eq rfl) (hb hby at_185) (fun _ _ => ⟨rfl, rfl, (by decide : 8 + 0 ≤ _), (by decide : 41 + 0 ≤ _)⟩)
    dsimp only [Pt.U, Pt.locs, Pt.cells, Pt.slots] at X94 l94 y94 z94 st94 hQ94
    obtain rfl : k94 = 8 := y94; obtain rfl : n94 = 41 := z94
    obtain ⟨rfl, N94q, K94q, f94_0, f94_1, f94_2, f94_3⟩ := hQ94
    have N94 : Fr n0 L94 := Eq.mpr (congrArg (Fr n0) l94) (Fr.app N88 N94q)
    have Z94 : n0 ≤ T94.heap.size := Nat.le_trans Z88 K94q.1
    have c95 : Arv Z T94.heap b3 k3 .long (4 : Int32) [(.long y14_0), (.long y16_1), (.long y16_2), (.long y15_3)] (.long (0 : Int64)) := c89.keep K94q (ninS ne18 nin0)
    have c96 : Exa Z T94.heap b20 "com/example/causeline/causeline/core/CopyTable" := c90.keep K94q
    have c97 : Exa Z T94.heap b43 "com/example/causeline/causeline/core/Waiting" := c92.keep K94q
    have c98 : Fld Z T94.heap b43 "com/example/causeline/causeline/core/Waiting" "order" "J" (.long (7 : Int64)) := c93.keep K94q (ninS (Ne.symm ne46) nin0)
    have c99 : Exa Z T94.heap b17 "com/example/causeline/causeline/core/Filing" := fa88_0.keep K94q
    have c100 : Arv Z T94.heap vn88 kn88 .long (4 : Int32) [(.long y14_0), (.long (0 : Int64)), (.long (0 : Int64)), (.long (0 : Int64))] (.long (0 : Int64)) := fa88_5.keep K94q (ninS (Ne.symm nevn88_b17) nin0)
    have c101 : Arv Z T94.heap vo88 ko88 .long (4 : Int32) [(.long (7 : Int64)), (.long (0 : Int64)), (.long (0 : Int64)), (.long (0 : Int64))] (.long (0 : Int64)) := fa88_6.keep K94q (ninS (Ne.symm nevo88_b17) nin0)
    have K94 : Keep h0 T94.heap [] := K88.trans K94q (allS (Or.inr sz_b17) all0)
    have g102 : Fld Z T94.heap b17 "com/example/causeline/causeline/core/Filing" "first" "I" (.int (Int32.ofNat (if dn = 1 then 0 else dn))) := by have q := f94_2; rw [own_ef_n1 (own_w0 hdn (by decide))] at q; exact q
    have g103 : Fld Z T94.heap b17 "com/example/causeline/causeline/core/Filing" "end" "I" (.int (Int32.ofNat (if dn = 1 then 0 else 1))) := by have q := f94_3; rw [own_ee_n1 (own_w0 hdn (by decide))] at q; exact q
    obtain ⟨cq104, kq104, q104a, q104b, q104c⟩ := isOf hZ rfl f94_0
    obtain ⟨_, _, ⟨T104, L104, k104, n104⟩, -, X104, ⟨Lc104, hQ104, l104, y104, z104⟩, st104⟩ := X94.virtualBack hx (y := (⟨"com/example/causeline/causeline/core/Filing", "past", "(J)I"⟩ : MethodName)) (z := (⟨"com/example/causeline/causeline/core/Filing", "past", "(J)I"⟩ : MethodName)) hown (mvT hZ (hw _ (List.mem_of_getElem? (i := 92) rfl))) (mvT hZ (hw _ (List.mem_of_getElem? (i := 93) rfl))) (notFace_of_selects (args := #[]) (mvT hZ (hw _ (List.mem_of_getElem? (i := 95) rfl)))) (mvT hZ (hw _ (List.mem_of_getElem? (i := 95) rfl))) (mvT hZ (hw _ (List.mem_of_getElem? (i := 94) rfl))) (by decide) (backOf (W := 0) (rm11 l Z a0 hw [] b17 vq vn88 kn88 (4 : Int32) [y14_0, (0 : Int64), (0 : Int64), (0 : Int64)] (if dn = 1 then 0 else dn) (if dn = 1 then 0 else 1) T94.heap n0 Z94 f94_1 g102 g103 c100 (own_w1 hdn (by decide)) (own_w2 hdn (by decide)) (own_w3 hdn (by decide)) (Or.inr rfl)) hZ (hw _ (List.mem_of_getElem? (i := 96) rfl)) (hw _ (List.mem_of_getElem? (i := 7) rfl)) (by decide) (by decide)) q104a q104c (g := (mkF m 193 #[.val (.long va_), .second, .val (.long vb_), .second, .val (.long vc_), .second, .val (.long ve_), .second, .val (.long vq), .second, .val (.int vctl), .val (.int (1 : Int32)), .val (.int (Int32.ofNat dn)), .val (.ref b3), .val (.ref b17), .val (.ref b43), .unset, .unset] [(.long vq), (.ref b17)])) rfl (by rw [hml]; rfl) (Steps.refl _) (argsL := [(.long vq)]) (rest := []) (lenOf pd_6 rfl) rfl (by show 2 * 0 + _ ≤ _; exact Nat.le_of_eq rfl) (hb hby at_193) (fun _ _ => ⟨rfl, rfl, (by decide : 8 + 0 ≤ _), (by decide : 41 + 0 ≤ _)⟩)
    dsimp only [Pt.U, Pt.locs, Pt.cells, Pt.slots] at X104 l104 y104 z104 st104 hQ104
    obtain rfl : k104 = 8 := y104; obtain rfl : n104 = 41 := z104
    obtain ⟨rfl, N104q, K104q⟩ := hQ104
    have N104 : Fr n0 L104 := Eq.mpr (congrArg (Fr n0) l104) (Fr.app N94 N104q)
    have Z104 : n0 ≤ T104.heap.size := Nat.le_trans Z94 K104q.1
    have c105 : Arv Z T104.heap b3 k3 .long (4 : Int32) [(.long y14_0), (.long y16_1), (.long y16_2), (.long y15_3)] (.long (0 : Int64)) := c95.keep K104q nin0
    have c106 : Exa Z T104.heap b20 "com/example/causeline/causeline/core/CopyTable" := c96.keep K104q
    have c107 : Exa Z T104.heap b43 "com/example/causeline/causeline/core/Waiting" := c97.keep K104q
    have c108 : Fld Z T104.heap b43 "com/example/causeline/causeline/core/Waiting" "order" "J" (.long (7 : Int64)) := c98.keep K104q nin0
    have c109 : Arv Z T104.heap vn88 kn88 .long (4 : Int32) [(.long y14_0), (.long (0 : Int64)), (.long (0 : Int64)), (.long (0 : Int64))] (.long (0 : Int64)) := c100.keep K104q nin0
    have c110 : Arv Z T104.heap vo88 ko88 .long (4 : Int32) [(.long (7 : Int64)), (.long (0 : Int64)), (.long (0 : Int64)), (.long (0 : Int64))] (.long (0 : Int64)) := c101.keep K104q nin0
    have c111 : Exa Z T104.heap b17 "com/example/causeline/causeline/core/Filing" := f94_0.keep K104q
    have c112 : Fld Z T104.heap b17 "com/example/causeline/causeline/core/Filing" "numbers" "[J" (.ref vn88) := f94_1.keep K104q nin0
    have c113 : Fld Z T104.heap b17 "com/example/causeline/causeline/core/Filing" "first" "I" (.int (Int32.ofNat (if dn = 1 then 0 else dn))) := g102.keep K104q nin0
    have c114 : Fld Z T104.heap b17 "com/example/causeline/causeline/core/Filing" "end" "I" (.int (Int32.ofNat (if dn = 1 then 0 else 1))) := g103.keep K104q nin0
    have K104 : Keep h0 T104.heap [] := K94.trans K104q all0
    have pre115 : ∀ t, Steps p.tables e below (T104.setTop (mkF m 202 #[.val (.long va_), .second, .val (.long vb_), .second, .val (.long vc_), .second, .val (.long ve_), .second, .val (.long vq), .second, .val (.int vctl), .val (.int (1 : Int32)), .val (.int (Int32.ofNat dn)), .val (.ref b3), .val (.ref b17), .val (.ref b43), .val (.int (Int32.ofNat (own_bs (own_g [y14_0, (0 : Int64), (0 : Int64), (0 : Int64)] vq) 4 (if dn = 1 then 0 else dn) (if dn = 1 then 0 else 1)))), .unset] [(.int (1 : Int32)), (.int (Int32.ofNat dn))])) t → Steps p.tables e below (s₁.setTop (entryFrame m #[(.long va_), (.long vb_), (.long vc_), (.long ve_), (.long vq), (.int vctl)] maxLocals)) t := by
      intro t kt
      refine pre63 t ?_
      show Steps p.tables e below (T54.setTop (mkF m 114 #[.val (.long va_), .second, .val (.long vb_), .second, .val (.long vc_), .second, .val (.long ve_), .second, .val (.long vq), .second, .val (.int vctl), .val (.int (1 : Int32)), .val (.int (Int32.ofNat dn)), .val (.ref b3), .val (.ref b17), .val (.ref b43), .unset, .unset] [])) _
      refine XS.iload X54.here hx rfl (hb hby at_114) rfl ?_
      show Steps p.tables e below (T54.setTop (mkF m 116 #[.val (.long va_), .second, .val (.long vb_), .second, .val (.long vc_), .second, .val (.long ve_), .second, .val (.long vq), .second, .val (.int vctl), .val (.int (1 : Int32)), .val (.int (Int32.ofNat dn)), .val (.ref b3), .val (.ref b17), .val (.ref b43), .unset, .unset] [(.int (1 : Int32))])) _
      refine XS.ifNo X54.here hx rfl (hb hby at_116) rfl ((if0 _ _).trans (tlt ((by decide) : (0 : Int32) < (1 : Int32))).2.2.2) ?_
      show Steps p.tables e below (T54.setTop (mkF m 119 #[.val (.long va_), .second, .val (.long vb_), .second, .val (.long vc_), .second, .val (.long ve_), .second, .val (.long vq), .second, .val (.int vctl), .val (.int (1 : Int32)), .val (.int (Int32.ofNat dn)), .val (.ref b3), .val (.ref b17), .val (.ref b43), .unset, .unset] [])) _
      refine XS.aload X54.here hx rfl (hb hby at_119) rfl rfl ?_
      show Steps p.tables e below (T54.setTop (mkF m 121 #[.val (.long va_), .second, .val (.long vb_), .second, .val (.long vc_), .second, .val (.long ve_), .second, .val (.long vq), .second, .val (.int vctl), .val (.int (1 : Int32)), .val (.int (Int32.ofNat dn)), .val (.ref b3), .val (.ref b17), .val (.ref b43), .unset, .unset] [(.ref b17)])) _
      refine XS.aload X54.here hx rfl (hb hby at_121) rfl rfl ?_
      show Steps p.tables e below (T54.setTop (mkF m 123 #[.val (.long va_), .second, .val (.long vb_), .second, .val (.long vc_), .second, .val (.long ve_), .second, .val (.long vq), .second, .val (.int vctl), .val (.int (1 : Int32)), .val (.int (Int32.ofNat dn)), .val (.ref b3), .val (.ref b17), .val (.ref b43), .unset, .unset] [(.ref b3), (.ref b17)])) _
      refine XS.iconst X54.here hx rfl (hb hby at_123) ?_
      show Steps p.tables e below (T54.setTop (mkF m 124 #[.val (.long va_), .second, .val (.long vb_), .second, .val (.long vc_), .second, .val (.long ve_), .second, .val (.long vq), .second, .val (.int vctl), .val (.int (1 : Int32)), .val (.int (Int32.ofNat dn)), .val (.ref b3), .val (.ref b17), .val (.ref b43), .unset, .unset] [(.int (0 : Int32)), (.ref b3), (.ref b17)])) _
      refine X54.laload hx (j := (0 : Int32)) (v := (.long y14_0)) (by exact Ar87.1) (State.isArrayOf_alike hZ.alike Ar87.2.1) Ar87.2.2 hin87 hat87 (g := (mkF m 124 #[.val (.long va_), .second, .val (.long vb_), .second, .val (.long vc_), .second, .val (.long ve_), .second, .val (.long vq), .second, .val (.int vctl), .val (.int (1 : Int32)), .val (.int (Int32.ofNat dn)), .val (.ref b3), .val (.ref b17), .val (.ref b43), .unset, .unset] [(.int (0 : Int32)), (.ref b3), (.ref b17)])) rfl rfl (hb hby at_124) _ ?_
      show Steps p.tables e below (T54.setTop (mkF m 125 #[.val (.long va_), .second, .val (.long vb_), .second, .val (.long vc_), .second, .val (.long ve_), .second, .val (.long vq), .second, .val (.int vctl), .val (.int (1 : Int32)), .val (.int (Int32.ofNat dn)), .val (.ref b3), .val (.ref b17), .val (.ref b43), .unset, .unset] [(.long y14_0), (.ref b17)])) _
      refine XS.aload X54.here hx rfl (hb hby at_125) rfl rfl ?_
      show Steps p.tables e below (T54.setTop (mkF m 127 #[.val (.long va_), .second, .val (.long vb_), .second, .val (.long vc_), .second, .val (.long ve_), .second, .val (.long vq), .second, .val (.int vctl), .val (.int (1 : Int32)), .val (.int (Int32.ofNat dn)), .val (.ref b3), .val (.ref b17), .val (.ref b43), .unset, .unset] [(.ref b43), (.long y14_0), (.ref b17)])) _
      refine st88.trans ?_
      show Steps p.tables e below (T88.setTop (mkF m 130 #[.val (.long va_), .second, .val (.long vb_), .second, .val (.long vc_), .second, .val (.long ve_), .second, .val (.long vq), .second, .val (.int vctl), .val (.int (1 : Int32)), .val (.int (Int32.ofNat dn)), .val (.ref b3), .val (.ref b17), .val (.ref b43), .unset, .unset] [])) _
      refine XS.iload X88.here hx rfl (hb hby at_130) rfl ?_
      show Steps p.tables e below (T88.setTop (mkF m 132 #[.val (.long va_), .second, .val (.long vb_), .second, .val (.long vc_), .second, .val (.long ve_), .second, .val (.long vq), .second, .val (.int vctl), .val (.int (1 : Int32)), .val (.int (Int32.ofNat dn)), .val (.ref b3), .val (.ref b17), .val (.ref b43), .unset, .unset] [(.int (1 : Int32))])) _
      refine XS.iconst X88.here hx rfl (hb hby at_132) ?_
      show Steps p.tables e below (T88.setTop (mkF m 133 #[.val (.long va_), .second, .val (.long vb_), .second, .val (.long vc_), .second, .val (.long ve_), .second, .val (.long vq), .second, .val (.int vctl), .val (.int (1 : Int32)), .val (.int (Int32.ofNat dn)), .val (.ref b3), .val (.ref b17), .val (.ref b43), .unset, .unset] [(.int (1 : Int32)), (.int (1 : Int32))])) _
      refine XS.icmpYes X88.here hx rfl (pc0 := 133) (pc' := 147) rfl (hb hby at_133) rfl (flt ((by decide) : ¬ ((1 : Int32) < (1 : Int32)))).2.2.2 (by decide) (by decide) ?_
      show Steps p.tables e below (T88.setTop (mkF m 147 #[.val (.long va_), .second, .val (.long vb_), .second, .val (.long vc_), .second, .val (.long ve_), .second, .val (.long vq), .second, .val (.int vctl), .val (.int (1 : Int32)), .val (.int (Int32.ofNat dn)), .val (.ref b3), .val (.ref b17), .val (.ref b43), .unset, .unset] [])) _
      refine XS.iload X88.here hx rfl (hb hby at_147) rfl ?_
      show Steps p.tables e below (T88.setTop (mkF m 149 #[.val (.long va_), .second, .val (.long vb_), .second, .val (.long vc_), .second, .val (.long ve_), .second, .val (.long vq), .second, .val (.int vctl), .val (.int (1 : Int32)), .val (.int (Int32.ofNat dn)), .val (.ref b3), .val (.ref b17), .val (.ref b43), .unset, .unset] [(.int (1 : Int32))])) _
      refine XS.iconst X88.here hx rfl (hb hby at_149) ?_
      show Steps p.tables e below (T88.setTop (mkF m 150 #[.val (.long va_), .second, .val (.long vb_), .second, .val (.long vc_), .second, .val (.long ve_), .second, .val (.long vq), .second, .val (.int vctl), .val (.int (1 : Int32)), .val (.int (Int32.ofNat dn)), .val (.ref b3), .val (.ref b17), .val (.ref b43), .unset, .unset] [(.int (2 : Int32)), (.int (1 : Int32))])) _
      refine XS.icmpYes X88.here hx rfl (pc0 := 150) (pc' := 164) rfl (hb hby at_150) rfl (flt ((by decide) : ¬ ((2 : Int32) < (1 : Int32)))).2.2.2 (by decide) (by decide) ?_
      show Steps p.tables e below (T88.setTop (mkF m 164 #[.val (.long va_), .second, .val (.long vb_), .second, .val (.long vc_), .second, .val (.long ve_), .second, .val (.long vq), .second, .val (.int vctl), .val (.int (1 : Int32)), .val (.int (Int32.ofNat dn)), .val (.ref b3), .val (.ref b17), .val (.ref b43), .unset, .unset] [])) _
      refine XS.iload X88.here hx rfl (hb hby at_164) rfl ?_
      show Steps p.tables e below (T88.setTop (mkF m 166 #[.val (.long va_), .second, .val (.long vb_), .second, .val (.long vc_), .second, .val (.long ve_), .second, .val (.long vq), .second, .val (.int vctl), .val (.int (1 : Int32)), .val (.int (Int32.ofNat dn)), .val (.ref b3), .val (.ref b17), .val (.ref b43), .unset, .unset] [(.int (1 : Int32))])) _
      refine XS.iconst X88.here hx rfl (hb hby at_166) ?_
      show Steps p.tables e below (T88.setTop (mkF m 167 #[.val (.long va_), .second, .val (.long vb_), .second, .val (.long vc_), .second, .val (.long ve_), .second, .val (.long vq), .second, .val (.int vctl), .val (.int (1 : Int32)), .val (.int (Int32.ofNat dn)), .val (.ref b3), .val (.ref b17), .val (.ref b43), .unset, .unset] [(.int (3 : Int32)), (.int (1 : Int32))])) _
      refine XS.icmpYes X88.here hx rfl (pc0 := 167) (pc' := 181) rfl (hb hby at_167) rfl (flt ((by decide) : ¬ ((3 : Int32) < (1 : Int32)))).2.2.2 (by decide) (by decide) ?_
      show Steps p.tables e below (T88.setTop (mkF m 181 #[.val (.long va_), .second, .val (.long vb_), .second, .val (.long vc_), .second, .val (.long ve_), .second, .val (.long vq), .second, .val (.int vctl), .val (.int (1 : Int32)), .val (.int (Int32.ofNat dn)), .val (.ref b3), .val (.ref b17), .val (.ref b43), .unset, .unset] [])) _
      refine XS.aload X88.here hx rfl (hb hby at_181) rfl rfl ?_
      show Steps p.tables e below (T88.setTop (mkF m 183 #[.val (.long va_), .second, .val (.long vb_), .second, .val (.long vc_), .second, .val (.long ve_), .second, .val (.long vq), .second, .val (.int vctl), .val (.int (1 : Int32)), .val (.int (Int32.ofNat dn)), .val (.ref b3), .val (.ref b17), .val (.ref b43), .unset, .unset] [(.ref b17)])) _
      refine XS.iload X88.here hx rfl (hb hby at_183) rfl ?_
      show Steps p.tables e below (T88.setTop (mkF m 185 #[.val (.long va_), .second, .val (.long vb_), .second, .val (.long vc_), .second, .val (.long ve_), .second, .val (.long vq), .second, .val (.int vctl), .val (.int (1 : Int32)), .val (.int (Int32.ofNat dn)), .val (.ref b3), .val (.ref b17), .val (.ref b43), .unset, .unset] [(.int (Int32.ofNat dn)), (.ref b17)])) _
      refine st94.trans ?_
      show Steps p.tables e below (T94.setTop (mkF m 188 #[.val (.long va_), .second, .val (.long vb_), .second, .val (.long vc_), .second, .val (.long ve_), .second, .val (.long vq), .second, .val (.int vctl), .val (.int (1 : Int32)), .val (.int (Int32.ofNat dn)), .val (.ref b3), .val (.ref b17), .val (.ref b43), .unset, .unset] [(.int ((Int32.ofNat dn) - (0 : Int32)))])) _
      refine XS.pop X94.here hx rfl (hb hby at_188) rfl rfl ?_
      show Steps p.tables e below (T94.setTop (mkF m 189 #[.val (.long va_), .second, .val (.long vb_), .second, .val (.long vc_), .second, .val (.long ve_), .second, .val (.long vq), .second, .val (.int vctl), .val (.int (1 : Int32)), .val (.int (Int32.ofNat dn)), .val (.ref b3), .val (.ref b17), .val (.ref b43), .unset, .unset] [])) _
      refine XS.aload X94.here hx rfl (hb hby at_189) rfl rfl ?_
      show Steps p.tables e below (T94.setTop (mkF m 191 #[.val (.long va_), .second, .val (.long vb_), .second, .val (.long vc_), .second, .val (.long ve_), .second, .val (.long vq), .second, .val (.int vctl), .val (.int (1 : Int32)), .val (.int (Int32.ofNat dn)), .val (.ref b3), .val (.ref b17), .val (.ref b43), .unset, .unset] [(.ref b17)])) _
      refine XS.lload X94.here hx rfl (hb hby at_191) rfl ?_
      show Steps p.tables e below (T94.setTop (mkF m 193 #[.val (.long va_), .second, .val (.long vb_), .second, .val (.long vc_), .second, .val (.long ve_), .second, .val (.long vq), .second, .val (.int vctl), .val (.int (1 : Int32)), .val (.int (Int32.ofNat dn)), .val (.ref b3), .val (.ref b17), .val (.ref b43), .unset, .unset] [(.long vq), (.ref b17)])) _
      refine st104.trans ?_
      show Steps p.tables e below (T104.setTop (mkF m 196 #[.val (.long va_), .second, .val (.long vb_), .second, .val (.long vc_), .second, .val (.long ve_), .second, .val (.long vq), .second, .val (.int vctl), .val (.int (1 : Int32)), .val (.int (Int32.ofNat dn)), .val (.ref b3), .val (.ref b17), .val (.ref b43), .unset, .unset] [(.int (Int32.ofNat (own_bs (own_g [y14_0, (0 : Int64), (0 : Int64), (0 : Int64)] vq) 4 (if dn = 1 then 0 else dn) (if dn = 1 then 0 else 1))))])) _
      refine XS.istore X104.here hx rfl (hb hby at_196) rfl (l' := #[.val (.long va_), .second, .val (.long vb_), .second, .val (.long vc_), .second, .val (.long ve_), .second, .val (.long vq), .second, .val (.int vctl), .val (.int (1 : Int32)), .val (.int (Int32.ofNat dn)), .val (.ref b3), .val (.ref b17), .val (.ref b43), .val (.int (Int32.ofNat (own_bs (own_g [y14_0, (0 : Int64), (0 : Int64), (0 : Int64)] vq) 4 (if dn = 1 then 0 else dn) (if dn = 1 then 0 else 1)))), .unset]) rfl ?_
      show Steps p.tables e below (T104.setTop (mkF m 198 #[.val (.long va_), .second, .val (.long vb_), .second, .val (.long vc_), .second, .val (.long ve_), .second, .val (.long vq), .second, .val (.int vctl), .val (.int (1 : Int32)), .val (.int (Int32.ofNat dn)), .val (.ref b3), .val (.ref b17), .val (.ref b43), .val (.int (Int32.ofNat (own_bs (own_g [y14_0, (0 : Int64), (0 : Int64), (0 : Int64)] vq) 4 (if dn = 1 then 0 else dn) (if dn = 1 then 0 else 1)))), .unset] [])) _
      refine XS.iload X104.here hx rfl (hb hby at_198) rfl ?_
      show Steps p.tables e below (T104.setTop (mkF m 200 #[.val (.long va_), .second, .val (.long vb_), .second, .val (.long vc_), .second, .val (.long ve_), .second, .val (.long vq), .second, .val (.int vctl), .val (.int (1 : Int32)), .val (.int (Int32.ofNat dn)), .val (.ref b3), .val (.ref b17), .val (.ref b43), .val (.int (Int32.ofNat (own_bs (own_g [y14_0, (0 : Int64), (0 : Int64), (0 : Int64)] vq) 4 (if dn = 1 then 0 else dn) (if dn = 1 then 0 else 1)))), .unset] [(.int (Int32.ofNat dn))])) _
      refine XS.iload X104.here hx rfl (hb hby at_200) rfl ?_
      exact kt
    by_cases hc116 : (Int32.ofNat dn) < (1 : Int32)
    ·
      obtain ⟨_, _, ⟨T117, L117, k117, n117⟩, -, X117, ⟨Lc117, hQ117, l117, y117, z117⟩, st117⟩ := Jvm.LawKit.callS X104 hx (y := (⟨"com/example/causeline/causeline/core/FilingPastPinLaw", "in", "([JIIIJ)I"⟩ : MethodName)) hown (mvT hZ (hw _ (List.mem_of_getElem? (i := 97) rfl))) (mvT hZ (hw _ (List.mem_of_getElem? (i := 98) rfl))) (mvT hZ (hw _ (List.mem_of_getElem? (i := 3) rfl))) (mvT hZ (hw _ (List.mem_of_getElem? (i := 99) rfl))) (by decide) (backOf (W := 1) (rmIn0 l Z a0 hw [] b3 (Int32.ofNat dn) (1 : Int32) vq y14_0 y16_1 y16_2 y15_3 k3 T104.heap n0 Z104 c105) hZ (hw _ (List.mem_of_getElem? (i := 99) rfl)) (hw _ (List.mem_of_getElem? (i := 3) rfl)) (by decide) (by decide)) (g := (mkF m 216 #[.val (.long va_), .second, .val (.long vb_), .second, .val (.long vc_), .second, .val (.long ve_), .second, .val (.long vq), .second, .val (.int vctl), .val (.int (1 : Int32)), .val (.int (Int32.ofNat dn)), .val (.ref b3), .val (.ref b17), .val (.ref b43), .val (.int (Int32.ofNat (own_bs (own_g [y14_0, (0 : Int64), (0 : Int64), (0 : Int64)] vq) 4 (if dn = 1 then 0 else dn) (if dn = 1 then 0 else 1)))), .unset] [(.long vq), (.int (1 : Int32)), (.int (Int32.ofNat dn)), (.int (0 : Int32)), (.ref b3), (.int (Int32.ofNat dn))])) rfl (by rw [hml]; rfl) (argsL := [(.ref b3), (.int (0 : Int32)), (.int (Int32.ofNat dn)), (.int (1 : Int32)), (.long vq)]) (rest := [(.int (Int32.ofNat dn))]) (lenOf pd_7 rfl) rfl (by show 2 * 0 + _ ≤ _; exact Nat.le_of_eq rfl) (hb hby at_216) (fun _ _ => ⟨rfl, rfl, (by decide : 8 + 0 ≤ _), (by decide : 41 + 0 ≤ _)⟩)
      dsimp only [Pt.U, Pt.locs, Pt.cells, Pt.slots] at X117 l117 y117 z117 st117 hQ117
      obtain rfl : k117 = 8 := y117; obtain rfl : n117 = 41 := z117
      obtain ⟨rfl, N117q, e117q⟩ := hQ117
      have N117 : Fr n0 L117 := Eq.mpr (congrArg (Fr n0) l117) (Fr.app N104 N117q)
      obtain ⟨_, _, ⟨T118, L118, k118, n118⟩, -, X118, ⟨Lc118, hQ118, l118, y118, z118⟩, st118⟩ := Jvm.LawKit.callS X117 hx (y := (⟨"com/example/causeline/causeline/core/FilingPastPinLaw", "in", "([JIIIJ)I"⟩ : MethodName)) hown (mvT hZ (hw _ (List.mem_of_getElem? (i := 97) rfl))) (mvT hZ (hw _ (List.mem_of_getElem? (i := 98) rfl))) (mvT hZ (hw _ (List.mem_of_getElem? (i := 3) rfl))) (mvT hZ (hw _ (List.mem_of_getElem? (i := 99) rfl))) (by decide) (backOf (W := 1) (rmIn1 l Z a0 hw [] b3 (Int32.ofNat dn) (1 : Int32) vq y14_0 y16_1 y16_2 y15_3 k3 T104.heap n0 Z104 c105) hZ (hw _ (List.mem_of_getElem? (i := 99) rfl)) (hw _ (List.mem_of_getElem? (i := 3) rfl)) (by decide) (by decide)) (g := (mkF m 229 #[.val (.long va_), .second, .val (.long vb_), .second, .val (.long vc_), .second, .val (.long ve_), .second, .val (.long vq), .second, .val (.int vctl), .val (.int (1 : Int32)), .val (.int (Int32.ofNat dn)), .val (.ref b3), .val (.ref b17), .val (.ref b43), .val (.int (Int32.ofNat (own_bs (own_g [y14_0, (0 : Int64), (0 : Int64), (0 : Int64)] vq) 4 (if dn = 1 then 0 else dn) (if dn = 1 then 0 else 1)))), .unset] [(.long vq), (.int (1 : Int32)), (.int (Int32.ofNat dn)), (.int (1 : Int32)), (.ref b3), (.int ((Int32.ofNat dn) + (own_in0 b3 (Int32.ofNat dn) (1 : Int32) vq y14_0 y16_1 y16_2 y15_3)))])) rfl (by rw [hml]; rfl) (argsL := [(.ref b3), (.int (1 : Int32)), (.int (Int32.ofNat dn)), (.int (1 : Int32)), (.long vq)]) (rest := [(.int ((Int32.ofNat dn) + (own_in0 b3 (Int32.ofNat dn) (1 : Int32) vq y14_0 y16_1 y16_2 y15_3)))]) (lenOf pd_7 rfl) rfl (by show 2 * 0 + _ ≤ _; exact Nat.le_of_eq rfl) (hb hby at_229) (fun _ _ => ⟨rfl, e117q, (by decide : 8 + 0 ≤ _), (by decide : 41 + 0 ≤ _)⟩)
      dsimp only [Pt.U, Pt.locs, Pt.cells, Pt.slots] at X118 l118 y118 z118 st118 hQ118
      obtain rfl : k118 = 8 := y118; obtain rfl : n118 = 41 := z118
      obtain ⟨rfl, N118q, e118q⟩ := hQ118
      have N118 : Fr n0 L118 := Eq.mpr (congrArg (Fr n0) l118) (Fr.app N117 N118q)
      obtain ⟨_, _, ⟨T119, L119, k119, n119⟩, -, X119, ⟨Lc119, hQ119, l119, y119, z119⟩, st119⟩ := Jvm.LawKit.callS X118 hx (y := (⟨"com/example/causeline/causeline/core/FilingPastPinLaw", "in", "([JIIIJ)I"⟩ : MethodName)) hown (mvT hZ (hw _ (List.mem_of_getElem? (i := 97) rfl))) (mvT hZ (hw _ (List.mem_of_getElem? (i := 98) rfl))) (mvT hZ (hw _ (List.mem_of_getElem? (i := 3) rfl))) (mvT hZ (hw _ (List.mem_of_getElem? (i := 99) rfl))) (by decide) (backOf (W := 1) (rmIn2 l Z a0 hw [] b3 (Int32.ofNat dn) (1 : Int32) vq y14_0 y16_1 y16_2 y15_3 k3 T104.heap n0 Z104 c105) hZ (hw _ (List.mem_of_getElem? (i := 99) rfl)) (hw _ (List.mem_of_getElem? (i := 3) rfl)) (by decide) (by decide)) (g := (mkF m 242 #[.val (.long va_), .second, .val (.long vb_), .second, .val (.long vc_), .second, .val (.long ve_), .second, .val (.long vq), .second, .val (.int vctl), .val (.int (1 : Int32)), .val (.int (Int32.ofNat dn)), .val (.ref b3), .val (.ref b17), .val (.ref b43), .val (.int (Int32.ofNat (own_bs (own_g [y14_0, (0 : Int64), (0 : Int64), (0 : Int64)] vq) 4 (if dn = 1 then 0 else dn) (if dn = 1 then 0 else 1)))), .unset] [(.long vq), (.int (1 : Int32)), (.int (Int32.ofNat dn)), (.int (2 : Int32)), (.ref b3), (.int (((Int32.ofNat dn) + (own_in0 b3 (Int32.ofNat dn) (1 : Int32) vq y14_0 y16_1 y16_2 y15_3)) + (own_in1 b3 (Int32.ofNat dn) (1 : Int32) vq y14_0 y16_1 y16_2 y15_3)))])) rfl (by rw [hml]; rfl) (argsL := [(.ref b3), (.int (2 : Int32)), (.int (Int32.ofNat dn)), (.int (1 : Int32)), (.long vq)]) (rest := [(.int (((Int32.ofNat dn) + (own_in0 b3 (Int32.ofNat dn) (1 : Int32) vq y14_0 y16_1 y16_2 y15_3)) + (own_in1 b3 (Int32.ofNat dn) (1 : Int32) vq y14_0 y16_1 y16_2 y15_3)))]) (lenOf pd_7 rfl) rfl (by show 2 * 0 + _ ≤ _; exact Nat.le_of_eq rfl) (hb hby at_242) (fun _ _ => ⟨rfl, e118q, (by decide : 8 + 0 ≤ _), (by decide : 41 + 0 ≤ _)⟩)
      dsimp only [Pt.U, Pt.locs, Pt.cells, Pt.slots] at X119 l119 y119 z119 st119 hQ119
      obtain rfl : k119 = 8 := y119; obtain rfl : n119 = 41 := z119
      obtain ⟨rfl, N119q, e119q⟩ := hQ119
      have N119 : Fr n0 L119 := Eq.mpr (congrArg (Fr n0) l119) (Fr.app N118 N119q)
      obtain ⟨_, _, ⟨T120, L120, k120, n120⟩, -, X120, ⟨Lc120, hQ120, l120, y120, z120⟩, st120⟩ := Jvm.LawKit.callS X119 hx (y := (⟨"com/example/causeline/causeline/core/FilingPastPinLaw", "in", "([JIIIJ)I"⟩ : MethodName)) hown (mvT hZ (hw _ (List.mem_of_getElem? (i := 97) rfl))) (mvT hZ (hw _ (List.mem_of_getElem? (i := 98) rfl))) (mvT hZ (hw _ (List.mem_of_getElem? (i := 3) rfl))) (mvT hZ (hw _ (List.mem_of_getElem? (i := 99) rfl))) (by decide) (backOf (W := 1) (rmIn3 l Z a0 hw [] b3 (Int32.ofNat dn) (1 : Int32) vq y14_0 y16_1 y16_2 y15_3 k3 T104.heap n0 Z104 c105) hZ (hw _ (List.mem_of_getElem? (i := 99) rfl)) (hw _ (List.mem_of_getElem? (i := 3) rfl)) (by decide) (by decide)) (g := (mkF m 255 #[.val (.long va_), .second, .val (.long vb_), .second, .val (.long vc_), .second, .val (.long ve_), .second, .val (.long vq), .second, .val (.int vctl), .val (.int (1 : Int32)), .val (.int (Int32.ofNat dn)), .val (.ref b3), .val (.ref b17), .val (.ref b43), .val (.int (Int32.ofNat (own_bs (own_g [y14_0, (0 : Int64), (0 : Int64), (0 : Int64)] vq) 4 (if dn = 1 then 0 else dn) (if dn = 1 then 0 else 1)))), .unset] [(.long vq), (.int (1 : Int32)), (.int (Int32.ofNat dn)), (.int (3 : Int32)), (.ref b3), (.int ((((Int32.ofNat dn) + (own_in0 b3 (Int32.ofNat dn) (1 : Int32) vq y14_0 y16_1 y16_2 y15_3)) + (own_in1 b3 (Int32.ofNat dn) (1 : Int32) vq y14_0 y16_1 y16_2 y15_3)) + (own_in2 b3 (Int32.ofNat dn) (1 : Int32) vq y14_0 y16_1 y16_2 y15_3)))])) rfl (by rw [hml]; rfl) (argsL := [(.ref b3), (.int (3 : Int32)), (.int (Int32.ofNat dn)), (.int (1 : Int32)), (.long vq)]) (rest := [(.int ((((Int32.ofNat dn) + (own_in0 b3 (Int32.ofNat dn) (1 : Int32) vq y14_0 y16_1 y16_2 y15_3)) + (own_in1 b3 (Int32.ofNat dn) (1 : Int32) vq y14_0 y16_1 y16_2 y15_3)) + (own_in2 b3 (Int32.ofNat dn) (1 : Int32) vq y14_0 y16_1 y16_2 y15_3)))]) (lenOf pd_7 rfl) rfl (by show 2 * 0 + _ ≤ _; exact Nat.le_of_eq rfl) (hb hby at_255) (fun _ _ => ⟨rfl, e119q, (by decide : 8 + 0 ≤ _), (by decide : 41 + 0 ≤ _)⟩)
      dsimp only [Pt.U, Pt.locs, Pt.cells, Pt.slots] at X120 l120 y120 z120 st120 hQ120
      obtain rfl : k120 = 8 := y120; obtain rfl : n120 = 41 := z120
      obtain ⟨rfl, N120q, e120q⟩ := hQ120
      have N120 : Fr n0 L120 := Eq.mpr (congrArg (Fr n0) l120) (Fr.app N119 N120q)
      obtain ⟨fs, hr, hrun, hended, hW, hsame⟩ := X120.leave (v := some (.int (1 : Int32))) (fun h => by rw [Bd.returns] at h; cases h) (hlocks := BodyLoose.notSynchronized Bd)
      refine ⟨_, _, pre115 _ ?_, hrun, hended, _, _, rfl, ?_, ⟨_, rfl⟩, hW, hsame.mono (by decide) (by decide)⟩
      ·
        show Steps p.tables e below (T104.setTop (mkF m 202 #[.val (.long va_), .second, .val (.long vb_), .second, .val (.long vc_), .second, .val (.long ve_), .second, .val (.long vq), .second, .val (.int vctl), .val (.int (1 : Int32)), .val (.int (Int32.ofNat dn)), .val (.ref b3), .val (.ref b17), .val (.ref b43), .val (.int (Int32.ofNat (own_bs (own_g [y14_0, (0 : Int64), (0 : Int64), (0 : Int64)] vq) 4 (if dn = 1 then 0 else dn) (if dn = 1 then 0 else 1)))), .unset] [(.int (1 : Int32)), (.int (Int32.ofNat dn))])) _
        refine XS.icmpNo X104.here hx rfl (hb hby at_202) rfl (tlt (hc116 : (Int32.ofNat dn) < (1 : Int32))).2.1 ?_
        show Steps p.tables e below (T104.setTop (mkF m 205 #[.val (.long va_), .second, .val (.long vb_), .second, .val (.long vc_), .second, .val (.long ve_), .second, .val (.long vq), .second, .val (.int vctl), .val (.int (1 : Int32)), .val (.int (Int32.ofNat dn)), .val (.ref b3), .val (.ref b17), .val (.ref b43), .val (.int (Int32.ofNat (own_bs (own_g [y14_0, (0 : Int64), (0 : Int64), (0 : Int64)] vq) 4 (if dn = 1 then 0 else dn) (if dn = 1 then 0 else 1)))), .unset] [])) _
        refine XS.iload X104.here hx rfl (hb hby at_205) rfl ?_
        show Steps p.tables e below (T104.setTop (mkF m 207 #[.val (.long va_), .second, .val (.long vb_), .second, .val (.long vc_), .second, .val (.long ve_), .second, .val (.long vq), .second, .val (.int vctl), .val (.int (1 : Int32)), .val (.int (Int32.ofNat dn)), .val (.ref b3), .val (.ref b17), .val (.ref b43), .val (.int (Int32.ofNat (own_bs (own_g [y14_0, (0 : Int64), (0 : Int64), (0 : Int64)] vq) 4 (if dn = 1 then 0 else dn) (if dn = 1 then 0 else 1)))), .unset] [(.int (Int32.ofNat dn))])) _
        refine XS.aload X104.here hx rfl (hb hby at_207) rfl rfl ?_
        show Steps p.tables e below (T104.setTop (mkF m 209 #[.val (.long va_), .second, .val (.long vb_), .second, .val (.long vc_), .second, .val (.long ve_), .second, .val (.long vq), .second, .val (.int vctl), .val (.int (1 : Int32)), .val (.int (Int32.ofNat dn)), .val (.ref b3), .val (.ref b17), .val (.ref b43), .val (.int (Int32.ofNat (own_bs (own_g [y14_0, (0 : Int64), (0 : Int64), (0 : Int64)] vq) 4 (if dn = 1 then 0 else dn) (if dn = 1 then 0 else 1)))), .unset] [(.ref b3), (.int (Int32.ofNat dn))])) _
        refine XS.iconst X104.here hx rfl (hb hby at_209) ?_
        show Steps p.tables e below (T104.setTop (mkF m 210 #[.val (.long va_), .second, .val (.long vb_), .second, .val (.long vc_), .second, .val (.long ve_), .second, .val (.long vq), .second, .val (.int vctl), .val (.int (1 : Int32)), .val (.int (Int32.ofNat dn)), .val (.ref b3), .val (.ref b17), .val (.ref b43), .val (.int (Int32.ofNat (own_bs (own_g [y14_0, (0 : Int64), (0 : Int64), (0 : Int64)] vq) 4 (if dn = 1 then 0 else dn) (if dn = 1 then 0 else 1)))), .unset] [(.int (0 : Int32)), (.ref b3), (.int (Int32.ofNat dn))])) _
        refine XS.iload X104.here hx rfl (hb hby at_210) rfl ?_
        show Steps p.tables e below (T104.setTop (mkF m 212 #[.val (.long va_), .second, .val (.long vb_), .second, .val (.long vc_), .second, .val (.long ve_), .second, .val (.long vq), .second, .val (.int vctl), .val (.int (1 : Int32)), .val (.int (Int32.ofNat dn)), .val (.ref b3), .val (.ref b17), .val (.ref b43), .val (.int (Int32.ofNat (own_bs (own_g [y14_0, (0 : Int64), (0 : Int64), (0 : Int64)] vq) 4 (if dn = 1 then 0 else dn) (if dn = 1 then 0 else 1)))), .unset] [(.int (Int32.ofNat dn)), (.int (0 : Int32)), (.ref b3), (.int (Int32.ofNat dn))])) _
        refine XS.iload X104.here hx rfl (hb hby at_212) rfl ?_
        show Steps p.tables e below (T104.setTop (mkF m 214 #[.val (.long va_), .second, .val (.long vb_), .second, .val (.long vc_), .second, .val (.long ve_), .second, .val (.long vq), .second, .val (.int vctl), .val (.int (1 : Int32)), .val (.int (Int32.ofNat dn)), .val (.ref b3), .val (.ref b17), .val (.ref b43), .val (.int (Int32.ofNat (own_bs (own_g [y14_0, (0 : Int64), (0 : Int64), (0 : Int64)] vq) 4 (if dn = 1 then 0 else dn) (if dn = 1 then 0 else 1)))), .unset] [(.int (1 : Int32)), (.int (Int32.ofNat dn)), (.int (0 : Int32)), (.ref b3), (.int (Int32.ofNat dn))])) _
        refine XS.lload X104.here hx rfl (hb hby at_214) rfl ?_
        show Steps p.tables e below (T104.setTop (mkF m 216 #[.val (.long va_), .second, .val (.long vb_), .second, .val (.long vc_), .second, .val (.long ve_), .second, .val (.long vq), .second, .val (.int vctl), .val (.int (1 : Int32)), .val (.int (Int32.ofNat dn)), .val (.ref b3), .val (.ref b17), .val (.ref b43), .val (.int (Int32.ofNat (own_bs (own_g [y14_0, (0 : Int64), (0 : Int64), (0 : Int64)] vq) 4 (if dn = 1 then 0 else dn) (if dn = 1 then 0 else 1)))), .unset] [(.long vq), (.int (1 : Int32)), (.int (Int32.ofNat dn)), (.int (0 : Int32)), (.ref b3), (.int (Int32.ofNat dn))])) _
        refine st117 _ ?_
        show Steps p.tables e below (T117.setTop (mkF m 219 #[.val (.long va_), .second, .val (.long vb_), .second, .val (.long vc_), .second, .val (.long ve_), .second, .val (.long vq), .second, .val (.int vctl), .val (.int (1 : Int32)), .val (.int (Int32.ofNat dn)), .val (.ref b3), .val (.ref b17), .val (.ref b43), .val (.int (Int32.ofNat (own_bs (own_g [y14_0, (0 : Int64), (0 : Int64), (0 : Int64)] vq) 4 (if dn = 1 then 0 else dn) (if dn = 1 then 0 else 1)))), .unset] [(.int (own_in0 b3 (Int32.ofNat dn) (1 : Int32) vq y14_0 y16_1 y16_2 y15_3)), (.int (Int32.ofNat dn))])) _
        refine XS.iadd X117.here hx rfl (hb hby at_219) rfl ?_
        show Steps p.tables e below (T117.setTop (mkF m 220 #[.val (.long va_), .second, .val (.long vb_), .second, .val (.long vc_), .second, .val (.long ve_), .second, .val (.long vq), .second, .val (.int vctl), .val (.int (1 : Int32)), .val (.int (Int32.ofNat dn)), .val (.ref b3), .val (.ref b17), .val (.ref b43), .val (.int (Int32.ofNat (own_bs (own_g [y14_0, (0 : Int64), (0 : Int64), (0 : Int64)] vq) 4 (if dn = 1 then 0 else dn) (if dn = 1 then 0 else 1)))), .unset] [(.int ((Int32.ofNat dn) + (own_in0 b3 (Int32.ofNat dn) (1 : Int32) vq y14_0 y16_1 y16_2 y15_3)))])) _
        refine XS.aload X117.here hx rfl (hb hby at_220) rfl rfl ?_
        show Steps p.tables e below (T117.setTop (mkF m 222 #[.val (.long va_), .second, .val (.long vb_), .second, .val (.long vc_), .second, .val (.long ve_), .second, .val (.long vq), .second, .val (.int vctl), .val (.int (1 : Int32)), .val (.int (Int32.ofNat dn)), .val (.ref b3), .val (.ref b17), .val (.ref b43), .val (.int (Int32.ofNat (own_bs (own_g [y14_0, (0 : Int64), (0 : Int64), (0 : Int64)] vq) 4 (if dn = 1 then 0 else dn) (if dn = 1 then 0 else 1)))), .unset] [(.ref b3), (.int ((Int32.ofNat dn) + (own_in0 b3 (Int32.ofNat dn) (1 : Int32) vq y14_0 y16_1 y16_2 y15_3)))])) _
        refine XS.iconst X117.here hx rfl (hb hby at_222) ?_
        show Steps p.tables e below (T117.setTop (mkF m 223 #[.val (.long va_), .second, .val (.long vb_), .second, .val (.long vc_), .second, .val (.long ve_), .second, .val (.long vq), .second, .val (.int vctl), .val (.int (1 : Int32)), .val (.int (Int32.ofNat dn)), .val (.ref b3), .val (.ref b17), .val (.ref b43), .val (.int (Int32.ofNat (own_bs (own_g [y14_0, (0 : Int64), (0 : Int64), (0 : Int64)] vq) 4 (if dn = 1 then 0 else dn) (if dn = 1 then 0 else 1)))), .unset] [(.int (1 : Int32)), (.ref b3), (.int ((Int32.ofNat dn) + (own_in0 b3 (Int32.ofNat dn) (1 : Int32) vq y14_0 y16_1 y16_2 y15_3)))])) _
        refine XS.iload X117.here hx rfl (hb hby at_223) rfl ?_
        show Steps p.tables e below (T117.setTop (mkF m 225 #[.val (.long va_), .second, .val (.long vb_), .second, .val (.long vc_), .second, .val (.long ve_), .second, .val (.long vq), .second, .val (.int vctl), .val (.int (1 : Int32)), .val (.int (Int32.ofNat dn)), .val (.ref b3), .val (.ref b17), .val (.ref b43), .val (.int (Int32.ofNat (own_bs (own_g [y14_0, (0 : Int64), (0 : Int64), (0 : Int64)] vq) 4 (if dn = 1 then 0 else dn) (if dn = 1 then 0 else 1)))), .unset] [(.int (Int32.ofNat dn)), (.int (1 : Int32)), (.ref b3), (.int ((Int32.ofNat dn) + (own_in0 b3 (Int32.ofNat dn) (1 : Int32) vq y14_0 y16_1 y16_2 y15_3)))])) _
        refine XS.iload X117.here hx rfl (hb hby at_225) rfl ?_
        show Steps p.tables e below (T117.setTop (mkF m 227 #[.val (.long va_), .second, .val (.long vb_), .second, .val (.long vc_), .second, .val (.long ve_), .second, .val (.long vq), .second, .val (.int vctl), .val (.int (1 : Int32)), .val (.int (Int32.ofNat dn)), .val (.ref b3), .val (.ref b17), .val (.ref b43), .val (.int (Int32.ofNat (own_bs (own_g [y14_0, (0 : Int64), (0 : Int64), (0 : Int64)] vq) 4 (if dn = 1 then 0 else dn) (if dn = 1 then 0 else 1)))), .unset] [(.int (1 : Int32)), (.int (Int32.ofNat dn)), (.int (1 : Int32)), (.ref b3), (.int ((Int32.ofNat dn) + (own_in0 b3 (Int32.ofNat dn) (1 : Int32) vq y14_0 y16_1 y16_2 y15_3)))])) _
        refine XS.lload X117.here hx rfl (hb hby at_227) rfl ?_
        show Steps p.tables e below (T117.setTop (mkF m 229 #[.val (.long va_), .second, .val (.long vb_), .second, .val (.long vc_), .second, .val (.long ve_), .second, .val (.long vq), .second, .val (.int vctl), .val (.int (1 : Int32)), .val (.int (Int32.ofNat dn)), .val (.ref b3), .val (.ref b17), .val (.ref b43), .val (.int (Int32.ofNat (own_bs (own_g [y14_0, (0 : Int64), (0 : Int64), (0 : Int64)] vq) 4 (if dn = 1 then 0 else dn) (if dn = 1 then 0 else 1)))), .unset] [(.long vq), (.int (1 : Int32)), (.int (Int32.ofNat dn)), (.int (1 : Int32)), (.ref b3), (.int ((Int32.ofNat dn) + (own_in0 b3 (Int32.ofNat dn) (1 : Int32) vq y14_0 y16_1 y16_2 y15_3)))])) _
        refine st118 _ ?_
        show Steps p.tables e below (T118.setTop (mkF m 232 #[.val (.long va_), .second, .val (.long vb_), .second, .val (.long vc_), .second, .val (.long ve_), .second, .val (.long vq), .second, .val (.int vctl), .val (.int (1 : Int32)), .val (.int (Int32.ofNat dn)), .val (.ref b3), .val (.ref b17), .val (.ref b43), .val (.int (Int32.ofNat (own_bs (own_g [y14_0, (0 : Int64), (0 : Int64), (0 : Int64)] vq) 4 (if dn = 1 then 0 else dn) (if dn = 1 then 0 else 1)))), .unset] [(.int (own_in1 b3 (Int32.ofNat dn) (1 : Int32) vq y14_0 y16_1 y16_2 y15_3)), (.int ((Int32.ofNat dn) + (own_in0 b3 (Int32.ofNat dn) (1 : Int32) vq y14_0 y16_1 y16_2 y15_3)))])) _
        refine XS.iadd X118.here hx rfl (hb hby at_232) rfl ?_
        show Steps p.tables e below (T118.setTop (mkF m 233 #[.val (.long va_), .second, .val (.long vb_), .second, .val (.long vc_), .second, .val (.long ve_), .second, .val (.long vq), .second, .val (.int vctl), .val (.int (1 : Int32)), .val (.int (Int32.ofNat dn)), .val (.ref b3), .val (.ref b17), .val (.ref b43), .val (.int (Int32.ofNat (own_bs (own_g [y14_0, (0 : Int64), (0 : Int64), (0 : Int64)] vq) 4 (if dn = 1 then 0 else dn) (if dn = 1 then 0 else 1)))), .unset] [(.int (((Int32.ofNat dn) + (own_in0 b3 (Int32.ofNat dn) (1 : Int32) vq y14_0 y16_1 y16_2 y15_3)) + (own_in1 b3 (Int32.ofNat dn) (1 : Int32) vq y14_0 y16_1 y16_2 y15_3)))])) _
        refine XS.aload X118.here hx rfl (hb hby at_233) rfl rfl ?_
        show Steps p.tables e below (T118.setTop (mkF m 235 #[.val (.long va_), .second, .val (.long vb_), .second, .val (.long vc_), .second, .val (.long ve_), .second, .val (.long vq), .second, .val (.int vctl), .val (.int (1 : Int32)), .val (.int (Int32.ofNat dn)), .val (.ref b3), .val (.ref b17), .val (.ref b43), .val (.int (Int32.ofNat (own_bs (own_g [y14_0, (0 : Int64), (0 : Int64), (0 : Int64)] vq) 4 (if dn = 1 then 0 else dn) (if dn = 1 then 0 else 1)))), .unset] [(.ref b3), (.int (((Int32.ofNat dn) + (own_in0 b3 (Int32.ofNat dn) (1 : Int32) vq y14_0 y16_1 y16_2 y15_3)) + (own_in1 b3 (Int32.ofNat dn) (1 : Int32) vq y14_0 y16_1 y16_2 y15_3)))])) _
        refine XS.iconst X118.here hx rfl (hb hby at_235) ?_
        show Steps p.tables e below (T118.setTop (mkF m 236 #[.val (.long va_), .second, .val (.long vb_), .second, .val (.long vc_), .second, .val (.long ve_), .second, .val (.long vq), .second, .val (.int vctl), .val (.int (1 : Int32)), .val (.int (Int32.ofNat dn)), .val (.ref b3), .val (.ref b17), .val (.ref b43), .val (.int (Int32.ofNat (own_bs (own_g [y14_0, (0 : Int64), (0 : Int64), (0 : Int64)] vq) 4 (if dn = 1 then 0 else dn) (if dn = 1 then 0 else 1)))), .unset] [(.int (2 : Int32)), (.ref b3), (.int (((Int32.ofNat dn) + (own_in0 b3 (Int32.ofNat dn) (1 : Int32) vq y14_0 y16_1 y16_2 y15_3)) + (own_in1 b3 (Int32.ofNat dn) (1 : Int32) vq y14_0 y16_1 y16_2 y15_3)))])) _
        refine XS.iload X118.here hx rfl (hb hby at_236) rfl ?_
        show Steps p.tables e below (T118.setTop (mkF m 238 #[.val (.long va_), .second, .val (.long vb_), .second, .val (.long vc_), .second, .val (.long ve_), .second, .val (.long vq), .second, .val (.int vctl), .val (.int (1 : Int32)), .val (.int (Int32.ofNat dn)), .val (.ref b3), .val (.ref b17), .val (.ref b43), .val (.int (Int32.ofNat (own_bs (own_g [y14_0, (0 : Int64), (0 : Int64), (0 : Int64)] vq) 4 (if dn = 1 then 0 else dn) (if dn = 1 then 0 else 1)))), .unset] [(.int (Int32.ofNat dn)), (.int (2 : Int32)), (.ref b3), (.int (((Int32.ofNat dn) + (own_in0 b3 (Int32.ofNat dn) (1 : Int32) vq y14_0 y16_1 y16_2 y15_3)) + (own_in1 b3 (Int32.ofNat dn) (1 : Int32) vq y14_0 y16_1 y16_2 y15_3)))])) _
        refine XS.iload X118.here hx rfl (hb hby at_238) rfl ?_
        show Steps p.tables e below (T118.setTop (mkF m 240 #[.val (.long va_), .second, .val (.long vb_), .second, .val (.long vc_), .second, .val (.long ve_), .second, .val (.long vq), .second, .val (.int vctl), .val (.int (1 : Int32)), .val (.int (Int32.ofNat dn)), .val (.ref b3), .val (.ref b17), .val (.ref b43), .val (.int (Int32.ofNat (own_bs (own_g [y14_0, (0 : Int64), (0 : Int64), (0 : Int64)] vq) 4 (if dn = 1 then 0 else dn) (if dn = 1 then 0 else 1)))), .unset] [(.int (1 : Int32)), (.int (Int32.ofNat dn)), (.int (2 : Int32)), (.ref b3), (.int (((Int32.ofNat dn) + (own_in0 b3 (Int32.ofNat dn) (1 : Int32) vq y14_0 y16_1 y16_2 y15_3)) + (own_in1 b3 (Int32.ofNat dn) (1 : Int32) vq y14_0 y16_1 y16_2 y15_3)))])) _
        refine XS.lload X118.here hx rfl (hb hby at_240) rfl ?_
        show Steps p.tables e below (T118.setTop (mkF m 242 #[.val (.long va_), .second, .val (.long vb_), .second, .val (.long vc_), .second, .val (.long ve_), .second, .val (.long vq), .second, .val (.int vctl), .val (.int (1 : Int32)), .val (.int (Int32.ofNat dn)), .val (.ref b3), .val (.ref b17), .val (.ref b43), .val (.int (Int32.ofNat (own_bs (own_g [y14_0, (0 : Int64), (0 : Int64), (0 : Int64)] vq) 4 (if dn = 1 then 0 else dn) (if dn = 1 then 0 else 1)))), .unset] [(.long vq), (.int (1 : Int32)), (.int (Int32.ofNat dn)), (.int (2 : Int32)), (.ref b3), (.int (((Int32.ofNat dn) + (own_in0 b3 (Int32.ofNat dn) (1 : Int32) vq y14_0 y16_1 y16_2 y15_3)) + (own_in1 b3 (Int32.ofNat dn) (1 : Int32) vq y14_0 y16_1 y16_2 y15_3)))])) _
        refine st119 _ ?_
        show Steps p.tables e below (T119.setTop (mkF m 245 #[.val (.long va_), .second, .val (.long vb_), .second, .val (.long vc_), .second, .val (.long ve_), .second, .val (.long vq), .second, .val (.int vctl), .val (.int (1 : Int32)), .val (.int (Int32.ofNat dn)), .val (.ref b3), .val (.ref b17), .val (.ref b43), .val (.int (Int32.ofNat (own_bs (own_g [y14_0, (0 : Int64), (0 : Int64), (0 : Int64)] vq) 4 (if dn = 1 then 0 else dn) (if dn = 1 then 0 else 1)))), .unset] [(.int (own_in2 b3 (Int32.ofNat dn) (1 : Int32) vq y14_0 y16_1 y16_2 y15_3)), (.int (((Int32.ofNat dn) + (own_in0 b3 (Int32.ofNat dn) (1 : Int32) vq y14_0 y16_1 y16_2 y15_3)) + (own_in1 b3 (Int32.ofNat dn) (1 : Int32) vq y14_0 y16_1 y16_2 y15_3)))])) _
        refine XS.iadd X119.here hx rfl (hb hby at_245) rfl ?_
        show Steps p.tables e below (T119.setTop (mkF m 246 #[.val (.long va_), .second, .val (.long vb_), .second, .val (.long vc_), .second, .val (.long ve_), .second, .val (.long vq), .second, .val (.int vctl), .val (.int (1 : Int32)), .val (.int (Int32.ofNat dn)), .val (.ref b3), .val (.ref b17), .val (.ref b43), .val (.int (Int32.ofNat (own_bs (own_g [y14_0, (0 : Int64), (0 : Int64), (0 : Int64)] vq) 4 (if dn = 1 then 0 else dn) (if dn = 1 then 0 else 1)))), .unset] [(.int ((((Int32.ofNat dn) + (own_in0 b3 (Int32.ofNat dn) (1 : Int32) vq y14_0 y16_1 y16_2 y15_3)) + (own_in1 b3 (Int32.ofNat dn) (1 : Int32) vq y14_0 y16_1 y16_2 y15_3)) + (own_in2 b3 (Int32.ofNat dn) (1 : Int32) vq y14_0 y16_1 y16_2 y15_3)))])) _
        refine XS.aload X119.here hx rfl (hb hby at_246) rfl rfl ?_
        show Steps p.tables e below (T119.setTop (mkF m 248 #[.val (.long va_), .second, .val (.long vb_), .second, .val (.long vc_), .second, .val (.long ve_), .second, .val (.long vq), .second, .val (.int vctl), .val (.int (1 : Int32)), .val (.int (Int32.ofNat dn)), .val (.ref b3), .val (.ref b17), .val (.ref b43), .val (.int (Int32.ofNat (own_bs (own_g [y14_0, (0 : Int64), (0 : Int64), (0 : Int64)] vq) 4 (if dn = 1 then 0 else dn) (if dn = 1 then 0 else 1)))), .unset] [(.ref b3), (.int ((((Int32.ofNat dn) + (own_in0 b3 (Int32.ofNat dn) (1 : Int32) vq y14_0 y16_1 y16_2 y15_3)) + (own_in1 b3 (Int32.ofNat dn) (1 : Int32) vq y14_0 y16_1 y16_2 y15_3)) + (own_in2 b3 (Int32.ofNat dn) (1 : Int32) vq y14_0 y16_1 y16_2 y15_3)))])) _
        refine XS.iconst X119.here hx rfl (hb hby at_248) ?_
        show Steps p.tables e below (T119.setTop (mkF m 249 #[.val (.long va_), .second, .val (.long vb_), .second, .val (.long vc_), .second, .val (.long ve_), .second, .val (.long vq), .second, .val (.int vctl), .val (.int (1 : Int32)), .val (.int (Int32.ofNat dn)), .val (.ref b3), .val (.ref b17), .val (.ref b43), .val (.int (Int32.ofNat (own_bs (own_g [y14_0, (0 : Int64), (0 : Int64), (0 : Int64)] vq) 4 (if dn = 1 then 0 else dn) (if dn = 1 then 0 else 1)))), .unset] [(.int (3 : Int32)), (.ref b3), (.int ((((Int32.ofNat dn) + (own_in0 b3 (Int32.ofNat dn) (1 : Int32) vq y14_0 y16_1 y16_2 y15_3)) + (own_in1 b3 (Int32.ofNat dn) (1 : Int32) vq y14_0 y16_1 y16_2 y15_3)) + (own_in2 b3 (Int32.ofNat dn) (1 : Int32) vq y14_0 y16_1 y16_2 y15_3)))])) _
        refine XS.iload X119.here hx rfl (hb hby at_249) rfl ?_
        show Steps p.tables e below (T119.setTop (mkF m 251 #[.val (.long va_), .second, .val (.long vb_), .second, .val (.long vc_), .second, .val (.long ve_), .second, .val (.long vq), .second, .val (.int vctl), .val (.int (1 : Int32)), .val (.int (Int32.ofNat dn)), .val (.ref b3), .val (.ref b17), .val (.ref b43), .val (.int (Int32.ofNat (own_bs (own_g [y14_0, (0 : Int64), (0 : Int64), (0 : Int64)] vq) 4 (if dn = 1 then 0 else dn) (if dn = 1 then 0 else 1)))), .unset] [(.int (Int32.ofNat dn)), (.int (3 : Int32)), (.ref b3), (.int ((((Int32.ofNat dn) + (own_in0 b3 (Int32.ofNat dn) (1 : Int32) vq y14_0 y16_1 y16_2 y15_3)) + (own_in1 b3 (Int32.ofNat dn) (1 : Int32) vq y14_0 y16_1 y16_2 y15_3)) + (own_in2 b3 (Int32.ofNat dn) (1 : Int32) vq y14_0 y16_1 y16_2 y15_3)))])) _
        refine XS.iload X119.here hx rfl (hb hby at_251) rfl ?_
        show Steps p.tables e below (T119.setTop (mkF m 253 #[.val (.long va_), .second, .val (.long vb_), .second, .val (.long vc_), .second, .val (.long ve_), .second, .val (.long vq), .second, .val (.int vctl), .val (.int (1 : Int32)), .val (.int (Int32.ofNat dn)), .val (.ref b3), .val (.ref b17), .val (.ref b43), .val (.int (Int32.ofNat (own_bs (own_g [y14_0, (0 : Int64), (0 : Int64), (0 : Int64)] vq) 4 (if dn = 1 then 0 else dn) (if dn = 1 then 0 else 1)))), .unset] [(.int (1 : Int32)), (.int (Int32.ofNat dn)), (.int (3 : Int32)), (.ref b3), (.int ((((Int32.ofNat dn) + (own_in0 b3 (Int32.ofNat dn) (1 : Int32) vq y14_0 y16_1 y16_2 y15_3)) + (own_in1 b3 (Int32.ofNat dn) (1 : Int32) vq y14_0 y16_1 y16_2 y15_3)) + (own_in2 b3 (Int32.ofNat dn) (1 : Int32) vq y14_0 y16_1 y16_2 y15_3)))])) _
        refine XS.lload X119.here hx rfl (hb hby at_253) rfl ?_
        show Steps p.tables e below (T119.setTop (mkF m 255 #[.val (.long va_), .second, .val (.long vb_), .second, .val (.long vc_), .second, .val (.long ve_), .second, .val (.long vq), .second, .val (.int vctl), .val (.int (1 : Int32)), .val (.int (Int32.ofNat dn)), .val (.ref b3), .val (.ref b17), .val (.ref b43), .val (.int (Int32.ofNat (own_bs (own_g [y14_0, (0 : Int64), (0 : Int64), (0 : Int64)] vq) 4 (if dn = 1 then 0 else dn) (if dn = 1 then 0 else 1)))), .unset] [(.long vq), (.int (1 : Int32)), (.int (Int32.ofNat dn)), (.int (3 : Int32)), (.ref b3), (.int ((((Int32.ofNat dn) + (own_in0 b3 (Int32.ofNat dn) (1 : Int32) vq y14_0 y16_1 y16_2 y15_3)) + (own_in1 b3 (Int32.ofNat dn) (1 : Int32) vq y14_0 y16_1 y16_2 y15_3)) + (own_in2 b3 (Int32.ofNat dn) (1 : Int32) vq y14_0 y16_1 y16_2 y15_3)))])) _
        refine st120 _ ?_
        show Steps p.tables e below (T120.setTop (mkF m 258 #[.val (.long va_), .second, .val (.long vb_), .second, .val (.long vc_), .second, .val (.long ve_), .second, .val (.long vq), .second, .val (.int vctl), .val (.int (1 : Int32)), .val (.int (Int32.ofNat dn)), .val (.ref b3), .val (.ref b17), .val (.ref b43), .val (.int (Int32.ofNat (own_bs (own_g [y14_0, (0 : Int64), (0 : Int64), (0 : Int64)] vq) 4 (if dn = 1 then 0 else dn) (if dn = 1 then 0 else 1)))), .unset] [(.int (own_in3 b3 (Int32.ofNat dn) (1 : Int32) vq y14_0 y16_1 y16_2 y15_3)), (.int ((((Int32.ofNat dn) + (own_in0 b3 (Int32.ofNat dn) (1 : Int32) vq y14_0 y16_1 y16_2 y15_3)) + (own_in1 b3 (Int32.ofNat dn) (1 : Int32) vq y14_0 y16_1 y16_2 y15_3)) + (own_in2 b3 (Int32.ofNat dn) (1 : Int32) vq y14_0 y16_1 y16_2 y15_3)))])) _
        refine XS.iadd X120.here hx rfl (hb hby at_258) rfl ?_
        show Steps p.tables e below (T120.setTop (mkF m 259 #[.val (.long va_), .second, .val (.long vb_), .second, .val (.long vc_), .second, .val (.long ve_), .second, .val (.long vq), .second, .val (.int vctl), .val (.int (1 : Int32)), .val (.int (Int32.ofNat dn)), .val (.ref b3), .val (.ref b17), .val (.ref b43), .val (.int (Int32.ofNat (own_bs (own_g [y14_0, (0 : Int64), (0 : Int64), (0 : Int64)] vq) 4 (if dn = 1 then 0 else dn) (if dn = 1 then 0 else 1)))), .unset] [(.int (((((Int32.ofNat dn) + (own_in0 b3 (Int32.ofNat dn) (1 : Int32) vq y14_0 y16_1 y16_2 y15_3)) + (own_in1 b3 (Int32.ofNat dn) (1 : Int32) vq y14_0 y16_1 y16_2 y15_3)) + (own_in2 b3 (Int32.ofNat dn) (1 : Int32) vq y14_0 y16_1 y16_2 y15_3)) + (own_in3 b3 (Int32.ofNat dn) (1 : Int32) vq y14_0 y16_1 y16_2 y15_3)))])) _
        refine XS.goto X120.here hx rfl (pc0 := 259) (pc' := 263) rfl (hb hby at_259) (by decide) (by decide) ?_
        show Steps p.tables e below (T120.setTop (mkF m 263 #[.val (.long va_), .second, .val (.long vb_), .second, .val (.long vc_), .second, .val (.long ve_), .second, .val (.long vq), .second, .val (.int vctl), .val (.int (1 : Int32)), .val (.int (Int32.ofNat dn)), .val (.ref b3), .val (.ref b17), .val (.ref b43), .val (.int (Int32.ofNat (own_bs (own_g [y14_0, (0 : Int64), (0 : Int64), (0 : Int64)] vq) 4 (if dn = 1 then 0 else dn) (if dn = 1 then 0 else 1)))), .unset] [(.int (((((Int32.ofNat dn) + (own_in0 b3 (Int32.ofNat dn) (1 : Int32) vq y14_0 y16_1 y16_2 y15_3)) + (own_in1 b3 (Int32.ofNat dn) (1 : Int32) vq y14_0 y16_1 y16_2 y15_3)) + (own_in2 b3 (Int32.ofNat dn) (1 : Int32) vq y14_0 y16_1 y16_2 y15_3)) + (own_in3 b3 (Int32.ofNat dn) (1 : Int32) vq y14_0 y16_1 y16_2 y15_3)))])) _
        refine XS.istore X120.here hx rfl (hb hby at_263) rfl (l' := #[.val (.long va_), .second, .val (.long vb_), .second, .val (.long vc_), .second, .val (.long ve_), .second, .val (.long vq), .second, .val (.int vctl), .val (.int (1 : Int32)), .val (.int (Int32.ofNat dn)), .val (.ref b3), .val (.ref b17), .val (.ref b43), .val (.int (Int32.ofNat (own_bs (own_g [y14_0, (0 : Int64), (0 : Int64), (0 : Int64)] vq) 4 (if dn = 1 then 0 else dn) (if dn = 1 then 0 else 1)))), .val (.int (((((Int32.ofNat dn) + (own_in0 b3 (Int32.ofNat dn) (1 : Int32) vq y14_0 y16_1 y16_2 y15_3)) + (own_in1 b3 (Int32.ofNat dn) (1 : Int32) vq y14_0 y16_1 y16_2 y15_3)) + (own_in2 b3 (Int32.ofNat dn) (1 : Int32) vq y14_0 y16_1 y16_2 y15_3)) + (own_in3 b3 (Int32.ofNat dn) (1 : Int32) vq y14_0 y16_1 y16_2 y15_3)))]) rfl ?_
        show Steps p.tables e below (T120.setTop (mkF m 265 #[.val (.long va_), .second, .val (.long vb_), .second, .val (.long vc_), .second, .val (.long ve_), .second, .val (.long vq), .second, .val (.int vctl), .val (.int (1 : Int32)), .val (.int (Int32.ofNat dn)), .val (.ref b3), .val (.ref b17), .val (.ref b43), .val (.int (Int32.ofNat (own_bs (own_g [y14_0, (0 : Int64), (0 : Int64), (0 : Int64)] vq) 4 (if dn = 1 then 0 else dn) (if dn = 1 then 0 else 1)))), .val (.int (((((Int32.ofNat dn) + (own_in0 b3 (Int32.ofNat dn) (1 : Int32) vq y14_0 y16_1 y16_2 y15_3)) + (own_in1 b3 (Int32.ofNat dn) (1 : Int32) vq y14_0 y16_1 y16_2 y15_3)) + (own_in2 b3 (Int32.ofNat dn) (1 : Int32) vq y14_0 y16_1 y16_2 y15_3)) + (own_in3 b3 (Int32.ofNat dn) (1 : Int32) vq y14_0 y16_1 y16_2 y15_3)))] [])) _
        refine XS.iload X120.here hx rfl (hb hby at_265) rfl ?_
        show Steps p.tables e below (T120.setTop (mkF m 267 #[.val (.long va_), .second, .val (.long vb_), .second, .val (.long vc_), .second, .val (.long ve_), .second, .val (.long vq), .second, .val (.int vctl), .val (.int (1 : Int32)), .val (.int (Int32.ofNat dn)), .val (.ref b3), .val (.ref b17), .val (.ref b43), .val (.int (Int32.ofNat (own_bs (own_g [y14_0, (0 : Int64), (0 : Int64), (0 : Int64)] vq) 4 (if dn = 1 then 0 else dn) (if dn = 1 then 0 else 1)))), .val (.int (((((Int32.ofNat dn) + (own_in0 b3 (Int32.ofNat dn) (1 : Int32) vq y14_0 y16_1 y16_2 y15_3)) + (own_in1 b3 (Int32.ofNat dn) (1 : Int32) vq y14_0 y16_1 y16_2 y15_3)) + (own_in2 b3 (Int32.ofNat dn) (1 : Int32) vq y14_0 y16_1 y16_2 y15_3)) + (own_in3 b3 (Int32.ofNat dn) (1 : Int32) vq y14_0 y16_1 y16_2 y15_3)))] [(.int (Int32.ofNat (own_bs (own_g [y14_0, (0 : Int64), (0 : Int64), (0 : Int64)] vq) 4 (if dn = 1 then 0 else dn) (if dn = 1 then 0 else 1))))])) _
        refine XS.iload X120.here hx rfl (hb hby at_267) rfl ?_
        show Steps p.tables e below (T120.setTop (mkF m 269 #[.val (.long va_), .second, .val (.long vb_), .second, .val (.long vc_), .second, .val (.long ve_), .second, .val (.long vq), .second, .val (.int vctl), .val (.int (1 : Int32)), .val (.int (Int32.ofNat dn)), .val (.ref b3), .val (.ref b17), .val (.ref b43), .val (.int (Int32.ofNat (own_bs (own_g [y14_0, (0 : Int64), (0 : Int64), (0 : Int64)] vq) 4 (if dn = 1 then 0 else dn) (if dn = 1 then 0 else 1)))), .val (.int (((((Int32.ofNat dn) + (own_in0 b3 (Int32.ofNat dn) (1 : Int32) vq y14_0 y16_1 y16_2 y15_3)) + (own_in1 b3 (Int32.ofNat dn) (1 : Int32) vq y14_0 y16_1 y16_2 y15_3)) + (own_in2 b3 (Int32.ofNat dn) (1 : Int32) vq y14_0 y16_1 y16_2 y15_3)) + (own_in3 b3 (Int32.ofNat dn) (1 : Int32) vq y14_0 y16_1 y16_2 y15_3)))] [(.int (((((Int32.ofNat dn) + (own_in0 b3 (Int32.ofNat dn) (1 : Int32) vq y14_0 y16_1 y16_2 y15_3)) + (own_in1 b3 (Int32.ofNat dn) (1 : Int32) vq y14_0 y16_1 y16_2 y15_3)) + (own_in2 b3 (Int32.ofNat dn) (1 : Int32) vq y14_0 y16_1 y16_2 y15_3)) + (own_in3 b3 (Int32.ofNat dn) (1 : Int32) vq y14_0 y16_1 y16_2 y15_3))), (.int (Int32.ofNat (own_bs (own_g [y14_0, (0 : Int64), (0 : Int64), (0 : Int64)] vq) 4 (if dn = 1 then 0 else dn) (if dn = 1 then 0 else 1))))])) _
        refine XS.icmpNo X120.here hx rfl (hb hby at_269) rfl (teq ((own_fin1t dn hdn hc116 s01 s12 s23) : (Int32.ofNat (own_bs (own_g [y14_0, (0 : Int64), (0 : Int64), (0 : Int64)] vq) 4 (if dn = 1 then 0 else dn) (if dn = 1 then 0 else 1))) = (((((Int32.ofNat dn) + (own_in0 b3 (Int32.ofNat dn) (1 : Int32) vq y14_0 y16_1 y16_2 y15_3)) + (own_in1 b3 (Int32.ofNat dn) (1 : Int32) vq y14_0 y16_1 y16_2 y15_3)) + (own_in2 b3 (Int32.ofNat dn) (1 : Int32) vq y14_0 y16_1 y16_2 y15_3)) + (own_in3 b3 (Int32.ofNat dn) (1 : Int32) vq y14_0 y16_1 y16_2 y15_3)))).2 ?_
        show Steps p.tables e below (T120.setTop (mkF m 272 #[.val (.long va_), .second, .val (.long vb_), .second, .val (.long vc_), .second, .val (.long ve_), .second, .val (.long vq), .second, .val (.int vctl), .val (.int (1 : Int32)), .val (.int (Int32.ofNat dn)), .val (.ref b3), .val (.ref b17), .val (.ref b43), .val (.int (Int32.ofNat (own_bs (own_g [y14_0, (0 : Int64), (0 : Int64), (0 : Int64)] vq) 4 (if dn = 1 then 0 else dn) (if dn = 1 then 0 else 1)))), .val (.int (((((Int32.ofNat dn) + (own_in0 b3 (Int32.ofNat dn) (1 : Int32) vq y14_0 y16_1 y16_2 y15_3)) + (own_in1 b3 (Int32.ofNat dn) (1 : Int32) vq y14_0 y16_1 y16_2 y15_3)) + (own_in2 b3 (Int32.ofNat dn) (1 : Int32) vq y14_0 y16_1 y16_2 y15_3)) + (own_in3 b3 (Int32.ofNat dn) (1 : Int32) vq y14_0 y16_1 y16_2 y15_3)))] [])) _
        refine XS.iconst X120.here hx rfl (hb hby at_272) ?_
        show Steps p.tables e below (T120.setTop (mkF m 273 #[.val (.long va_), .second, .val (.long vb_), .second, .val (.long vc_), .second, .val (.long ve_), .second, .val (.long vq), .second, .val (.int vctl), .val (.int (1 : Int32)), .val (.int (Int32.ofNat dn)), .val (.ref b3), .val (.ref b17), .val (.ref b43), .val (.int (Int32.ofNat (own_bs (own_g [y14_0, (0 : Int64), (0 : Int64), (0 : Int64)] vq) 4 (if dn = 1 then 0 else dn) (if dn = 1 then 0 else 1)))), .val (.int (((((Int32.ofNat dn) + (own_in0 b3 (Int32.ofNat dn) (1 : Int32) vq y14_0 y16_1 y16_2 y15_3)) + (own_in1 b3 (Int32.ofNat dn) (1 : Int32) vq y14_0 y16_1 y16_2 y15_3)) + (own_in2 b3 (Int32.ofNat dn) (1 : Int32) vq y14_0 y16_1 y16_2 y15_3)) + (own_in3 b3 (Int32.ofNat dn) (1 : Int32) vq y14_0 y16_1 y16_2 y15_3)))] [(.int (1 : Int32))])) _
        refine XS.goto X120.here hx rfl (pc0 := 273) (pc' := 277) rfl (hb hby at_273) (by decide) (by decide) ?_
        show Steps p.tables e below (T120.setTop (mkF m 277 #[.val (.long va_), .second, .val (.long vb_), .second, .val (.long vc_), .second, .val (.long ve_), .second, .val (.long vq), .second, .val (.int vctl), .val (.int (1 : Int32)), .val (.int (Int32.ofNat dn)), .val (.ref b3), .val (.ref b17), .val (.ref b43), .val (.int (Int32.ofNat (own_bs (own_g [y14_0, (0 : Int64), (0 : Int64), (0 : Int64)] vq) 4 (if dn = 1 then 0 else dn) (if dn = 1 then 0 else 1)))), .val (.int (((((Int32.ofNat dn) + (own_in0 b3 (Int32.ofNat dn) (1 : Int32) vq y14_0 y16_1 y16_2 y15_3)) + (own_in1 b3 (Int32.ofNat dn) (1 : Int32) vq y14_0 y16_1 y16_2 y15_3)) + (own_in2 b3 (Int32.ofNat dn) (1 : Int32) vq y14_0 y16_1 y16_2 y15_3)) + (own_in3 b3 (Int32.ofNat dn) (1 : Int32) vq y14_0 y16_1 y16_2 y15_3)))] [(.int (1 : Int32))])) _
        exact retN X120 hx (t := .boolean) Bd.returns (by simp) (hb hby at_277) hr
      ·
        show Q0 Z va_ vb_ vc_ ve_ vq vctl vN kN h0 n0 _ T120.heap _
        rw [e120q]
        exact ⟨rfl, N120⟩
    ·
      obtain ⟨fs, hr, hrun, hended, hW, hsame⟩ := X104.leave (v := some (.int (1 : Int32))) (fun h => by rw [Bd.returns] at h; cases h) (hlocks := BodyLoose.notSynchronized Bd)
      refine ⟨_, _, pre115 _ ?_, hrun, hended, _, _, rfl, ?_, ⟨_, rfl⟩, hW, hsame.mono (by decide) (by decide)⟩
      ·
        show Steps p.tables e below (T104.setTop (mkF m 202 #[.val (.long va_), .second, .val (.long vb_), .second, .val (.long vc_), .second, .val (.long ve_), .second, .val (.long vq), .second, .val (.int vctl), .val (.int (1 : Int32)), .val (.int (Int32.ofNat dn)), .val (.ref b3), .val (.ref b17), .val (.ref b43), .val (.int (Int32.ofNat (own_bs (own_g [y14_0, (0 : Int64), (0 : Int64), (0 : Int64)] vq) 4 (if dn = 1 then 0 else dn) (if dn = 1 then 0 else 1)))), .unset] [(.int (1 : Int32)), (.int (Int32.ofNat dn))])) _
        refine XS.icmpYes X104.here hx rfl (pc0 := 202) (pc' := 262) rfl (hb hby at_202) rfl (flt (hc116 : ¬ ((Int32.ofNat dn) < (1 : Int32)))).2.1 (by decide) (by decide) ?_
        show Steps p.tables e below (T104.setTop (mkF m 262 #[.val (.long va_), .second, .val (.long vb_), .second, .val (.long vc_), .second, .val (.long ve_), .second, .val (.long vq), .second, .val (.int vctl), .val (.int (1 : Int32)), .val (.int (Int32.ofNat dn)), .val (.ref b3), .val (.ref b17), .val (.ref b43), .val (.int (Int32.ofNat (own_bs (own_g [y14_0, (0 : Int64), (0 : Int64), (0 : Int64)] vq) 4 (if dn = 1 then 0 else dn) (if dn = 1 then 0 else 1)))), .unset] [])) _
        refine XS.iconst X104.here hx rfl (hb hby at_262) ?_
        show Steps p.tables e below (T104.setTop (mkF m 263 #[.val (.long va_), .second, .val (.long vb_), .second, .val (.long vc_), .second, .val (.long ve_), .second, .val (.long vq), .second, .val (.int vctl), .val (.int (1 : Int32)), .val (.int (Int32.ofNat dn)), .val (.ref b3), .val (.ref b17), .val (.ref b43), .val (.int (Int32.ofNat (own_bs (own_g [y14_0, (0 : Int64), (0 : Int64), (0 : Int64)] vq) 4 (if dn = 1 then 0 else dn) (if dn = 1 then 0 else 1)))), .unset] [(.int (0 : Int32))])) _
        refine XS.istore X104.here hx rfl (hb hby at_263) rfl (l' := #[.val (.long va_), .second, .val (.long vb_), .second, .val (.long vc_), .second, .val (.long ve_), .second, .val (.long vq), .second, .val (.int vctl), .val (.int (1 : Int32)), .val (.int (Int32.ofNat dn)), .val (.ref b3), .val (.ref b17), .val (.ref b43), .val (.int (Int32.ofNat (own_bs (own_g [y14_0, (0 : Int64), (0 : Int64), (0 : Int64)] vq) 4 (if dn = 1 then 0 else dn) (if dn = 1 then 0 else 1)))), .val (.int (0 : Int32))]) rfl ?_
        show Steps p.tables e below (T104.setTop (mkF m 265 #[.val (.long va_), .second, .val (.long vb_), .second, .val (.long vc_), .second, .val (.long ve_), .second, .val (.long vq), .second, .val (.int vctl), .val (.int (1 : Int32)), .val (.int (Int32.ofNat dn)), .val (.ref b3), .val (.ref b17), .val (.ref b43), .val (.int (Int32.ofNat (own_bs (own_g [y14_0, (0 : Int64), (0 : Int64), (0 : Int64)] vq) 4 (if dn = 1 then 0 else dn) (if dn = 1 then 0 else 1)))), .val (.int (0 : Int32))] [])) _
        refine XS.iload X104.here hx rfl (hb hby at_265) rfl ?_
        show Steps p.tables e below (T104.setTop (mkF m 267 #[.val (.long va_), .second, .val (.long vb_), .second, .val (.long vc_), .second, .val (.long ve_), .second, .val (.long vq), .second, .val (.int vctl), .val (.int (1 : Int32)), .val (.int (Int32.ofNat dn)), .val (.ref b3), .val (.ref b17), .val (.ref b43), .val (.int (Int32.ofNat (own_bs (own_g [y14_0, (0 : Int64), (0 : Int64), (0 : Int64)] vq) 4 (if dn = 1 then 0 else dn) (if dn = 1 then 0 else 1)))), .val (.int (0 : Int32))] [(.int (Int32.ofNat (own_bs (own_g [y14_0, (0 : Int64), (0 : Int64), (0 : Int64)] vq) 4 (if dn = 1 then 0 else dn) (if dn = 1 then 0 else 1))))])) _
        refine XS.iload X104.here hx rfl (hb hby at_267) rfl ?_
        show Steps p.tables e below (T104.setTop (mkF m 269 #[.val (.long va_), .second, .val (.long vb_), .second, .val (.long vc_), .second, .val (.long ve_), .second, .val (.long vq), .second, .val (.int vctl), .val (.int (1 : Int32)), .val (.int (Int32.ofNat dn)), .val (.ref b3), .val (.ref b17), .val (.ref b43), .val (.int (Int32.ofNat (own_bs (own_g [y14_0, (0 : Int64), (0 : Int64), (0 : Int64)] vq) 4 (if dn = 1 then 0 else dn) (if dn = 1 then 0 else 1)))), .val (.int (0 : Int32))] [(.int (0 : Int32)), (.int (Int32.ofNat (own_bs (own_g [y14_0, (0 : Int64), (0 : Int64), (0 : Int64)] vq) 4 (if dn = 1 then 0 else dn) (if dn = 1 then 0 else 1))))])) _
        refine XS.icmpNo X104.here hx rfl (hb hby at_269) rfl (teq ((own_fin1f dn hdn hc116 s01 s12 s23) : (Int32.ofNat (own_bs (own_g [y14_0, (0 : Int64), (0 : Int64), (0 : Int64)] vq) 4 (if dn = 1 then 0 else dn) (if dn = 1 then 0 else 1))) = (0 : Int32))).2 ?_
        show Steps p.tables e below (T104.setTop (mkF m 272 #[.val (.long va_), .second, .val (.long vb_), .second, .val (.long vc_), .second, .val (.long ve_), .second, .val (.long vq), .second, .val (.int vctl), .val (.int (1 : Int32)), .val (.int (Int32.ofNat dn)), .val (.ref b3), .val (.ref b17), .val (.ref b43), .val (.int (Int32.ofNat (own_bs (own_g [y14_0, (0 : Int64), (0 : Int64), (0 : Int64)] vq) 4 (if dn = 1 then 0 else dn) (if dn = 1 then 0 else 1)))), .val (.int (0 : Int32))] [])) _
        refine XS.iconst X104.here hx rfl (hb hby at_272) ?_
        show Steps p.tables e below (T104.setTop (mkF m 273 #[.val (.long va_), .second, .val (.long vb_), .second, .val (.long vc_), .second, .val (.long ve_), .second, .val (.long vq), .second, .val (.int vctl), .val (.int (1 : Int32)), .val (.int (Int32.ofNat dn)), .val (.ref b3), .val (.ref b17), .val (.ref b43), .val (.int (Int32.ofNat (own_bs (own_g [y14_0, (0 : Int64), (0 : Int64), (0 : Int64)] vq) 4 (if dn = 1 then 0 else dn) (if dn = 1 then 0 else 1)))), .val (.int (0 : Int32))] [(.int (1 : Int32))])) _
        refine XS.goto X104.here hx rfl (pc0 := 273) (pc' := 277) rfl (hb hby at_273) (by decide) (by decide) ?_
        show Steps p.tables e below (T104.setTop (mkF m 277 #[.val (.long va_), .second, .val (.long vb_), .second, .val (.long vc_), .second, .val (.long ve_), .second, .val (.long vq), .second, .val (.int vctl), .val (.int (1 : Int32)), .val (.int (Int32.ofNat dn)), .val (.ref b3), .val (.ref b17), .val (.ref b43), .val (.int (Int32.ofNat (own_bs (own_g [y14_0, (0 : Int64), (0 : Int64), (0 : Int64)] vq) 4 (if dn = 1 then 0 else dn) (if dn = 1 then 0 else 1)))), .val (.int (0 : Int32))] [(.int (1 : Int32))])) _
        exact retN X104 hx (t := .boolean) Bd.returns (by simp) (hb hby at_277) hr
      ·
        show Q0 Z va_ vb_ vc_ ve_ vq vctl vN kN h0 n0 _ T104.heap _
        exact ⟨rfl, N104⟩
  ·
    obtain ⟨dn, hdn, rfl⟩ := own_dn2 hdd
    obtain ⟨cl121, Ar121, q121, S121, NN121, HH121, GG121⟩ := id c55
    have hin121 : ¬ ((0 : Int32) < 0 ∨ cl121.slots.size ≤ ((0 : Int32)).toNatClampNeg) := inb_of S121 ⟨by decide, by decide⟩
    have hat121 : cl121.slots[((0 : Int32)).toNatClampNeg]? = some (.long y14_0) := HH121.at hin121 rfl
    obtain ⟨cq122, kq122, q122a, q122b, q122c⟩ := isOf hZ rfl c57
    obtain ⟨_, _, ⟨T122, L122, k122, n122⟩, -, X122, ⟨Lc122, hQ122, l122, y122, z122⟩, st122⟩ := X54.virtualBack hx (y := (⟨"com/example/causeline/causeline/core/Filing", "add", "(JLcom/example/causeline/causeline/core/Waiting;)V"⟩ : MethodName)) (z := (⟨"com/example/causeline/causeline/core/Filing", "add", "(JLcom/example/causeline/causeline/core/Waiting;)V"⟩ : MethodName)) hown (mvT hZ (hw _ (List.mem_of_getElem? (i := 61) rfl))) (mvT hZ (hw _ (List.mem_of_getElem? (i := 62) rfl))) (notFace_of_selects (args := #[]) (mvT hZ (hw _ (List.mem_of_getElem? (i := 64) rfl)))) (mvT hZ (hw _ (List.mem_of_getElem? (i := 64) rfl))) (mvT hZ (hw _ (List.mem_of_getElem? (i := 63) rfl))) (by decide) (backOf (W := 0) (rmAdd0 l Z a0 hw [] b17 y14_0 b43 vN kN (7 : Int64) T54.heap n0 Z54 c57 c58 c59 c60 c61 (VN.keep K54 nin0) f54_0 g_b17 (Ne.symm (Nat.ne_of_lt (Nat.lt_of_lt_of_le VN.lt sz_b17))) ne46) hZ (hw _ (List.mem_of_getElem? (i := 65) rfl)) (hw _ (List.mem_of_getElem? (i := 7) rfl)) (by decide) (by decide)) q122a q122c (g := (mkF m 127 #[.val (.long va_), .second, .val (.long vb_), .second, .val (.long vc_), .second, .val (.long ve_), .second, .val (.long vq), .second, .val (.int vctl), .val (.int (2 : Int32)), .val (.int (Int32.ofNat dn)), .val (.ref b3), .val (.ref b17), .val (.ref b43), .unset, .unset] [(.ref b43), (.long y14_0), (.ref b17)])) rfl (by rw [hml]; rfl) (Steps.refl _) (argsL := [(.long y14_0), (.ref b43)]) (rest := []) (lenOf pd_8 rfl) rfl (by show 2 * 0 + _ ≤ _; exact Nat.le_of_eq rfl) (hb hby at_127) (fun _ _ => ⟨rfl, rfl, (by decide : 6 + 2 ≤ _), (by decide : 33 + 8 ≤ _)⟩)
    dsimp only [Pt.U, Pt.locs, Pt.cells, Pt.slots] at X122 l122 y122 z122 st122 hQ122
    obtain rfl : k122 = 8 := y122; obtain rfl : n122 = 41 := z122
    obtain ⟨rfl, N122q, K122q, ⟨vn122, kn122, vo122, ko122, szn122, szo122, gn122, go122, nno122, fa122_0, fa122_1, fa122_2, fa122_3, fa122_4, fa122_5, fa122_6⟩⟩ := hQ122
    have N122 : Fr n0 L122 := Eq.mpr (congrArg (Fr n0) l122) (Fr.app N54 N122q)
    have Z122 : n0 ≤ T122.heap.size := Nat.le_trans Z54 K122q.1
    have c123 : Arv Z T122.heap b3 k3 .long (4 : Int32) [(.long y14_0), (.long y16_1), (.long y16_2), (.long y15_3)] (.long (0 : Int64)) := c55.keep K122q (ninS ne18 nin0)
    have c124 : Exa Z T122.heap b20 "com/example/causeline/causeline/core/CopyTable" := c56.keep K122q
    have c125 : Exa Z T122.heap b17 "com/example/causeline/causeline/core/Filing" := c57.keep K122q
    have c126 : Exa Z T122.heap b43 "com/example/causeline/causeline/core/Waiting" := c62.keep K122q
    have c127 : Fld Z T122.heap b43 "com/example/causeline/causeline/core/Waiting" "order" "J" (.long (7 : Int64)) := f54_0.keep K122q (ninS (Ne.symm ne46) nin0)
    have K122 : Keep h0 T122.heap [] := K54.trans K122q (allS (Or.inr sz_b17) all0)
    have nevn122_b3 : b3 ≠ vn122 := Nat.ne_of_lt (Nat.lt_of_lt_of_le c55.lt szn122)
    have nevo122_b3 : b3 ≠ vo122 := Nat.ne_of_lt (Nat.lt_of_lt_of_le c55.lt szo122)
    have nevn122_b20 : b20 ≠ vn122 := Nat.ne_of_lt (Nat.lt_of_lt_of_le c56.lt szn122)
    have nevo122_b20 : b20 ≠ vo122 := Nat.ne_of_lt (Nat.lt_of_lt_of_le c56.lt szo122)
    have nevn122_b17 : b17 ≠ vn122 := Nat.ne_of_lt (Nat.lt_of_lt_of_le c61.lt szn122)
    have nevo122_b17 : b17 ≠ vo122 := Nat.ne_of_lt (Nat.lt_of_lt_of_le c61.lt szo122)
    have nevn122_b43 : b43 ≠ vn122 := Nat.ne_of_lt (Nat.lt_of_lt_of_le f54_0.lt szn122)
    have nevo122_b43 : b43 ≠ vo122 := Nat.ne_of_lt (Nat.lt_of_lt_of_le f54_0.lt szo122)
    have g_vn122 := gn122
    have sz_vn122 : h0.size ≤ vn122 := Nat.le_trans K54.1 szn122
    have g_vo122 := go122
    have sz_vo122 : h0.size ≤ vo122 := Nat.le_trans K54.1 szo122
    obtain ⟨cl128, Ar128, q128, S128, NN128, HH128, GG128⟩ := id c123
    have hin128 : ¬ ((1 : Int32) < 0 ∨ cl128.slots.size ≤ ((1 : Int32)).toNatClampNeg) := inb_of S128 ⟨by decide, by decide⟩
    have hat128 : cl128.slots[((1 : Int32)).toNatClampNeg]? = some (.long y16_1) := HH128.at hin128 rfl
    obtain ⟨cq129, kq129, q129a, q129b, q129c⟩ := isOf hZ rfl fa122_0
    obtain ⟨_, _, ⟨T129, L129, k129, n129⟩, -, X129, ⟨Lc129, hQ129, l129, y129, z129⟩, st129⟩ := X122.virtualBack hx (y := (⟨"com/example/causeline/causeline/core/Filing", "add", "(JLcom/example/causeline/causeline/core/Waiting;)V"⟩ : MethodName)) (z := (⟨"com/example/causeline/causeline/core/Filing", "add", "(JLcom/example/causeline/causeline/core/Waiting;)V"⟩ : MethodName)) hown (mvT hZ (hw _ (List.mem_of_getElem? (i := 61) rfl))) (mvT hZ (hw _ (List.mem_of_getElem? (i := 62) rfl))) (notFace_of_selects (args := #[]) (mvT hZ (hw _ (List.mem_of_getElem? (i := 64) rfl)))) (mvT hZ (hw _ (List.mem_of_getElem? (i := 64) rfl))) (mvT hZ (hw _ (List.mem_of_getElem? (i := 63) rfl))) (by decide) (backOf (W := 0) (rmAdd1 l Z a0 hw [] b17 y16_1 b43 vn122 kn122 vo122 ko122 (7 : Int64) y14_0 T122.heap n0 Z122 fa122_0 fa122_1 fa122_2 fa122_3 fa122_4 fa122_5 fa122_6 c127 g_b17 g_vn122 g_vo122 nevn122_b17 nevo122_b17 nno122 ne46 nevn122_b43 nevo122_b43 s01) hZ (hw _ (List.mem_of_getElem? (i := 65) rfl)) (hw _ (List.mem_of_getElem? (i := 7) rfl)) (by decide) (by decide)) q129a q129c (g := (mkF m 144 #[.val (.long va_), .second, .val (.long vb_), .second, .val (.long vc_), .second, .val (.long ve_), .second, .val (.long vq), .second, .val (.int vctl), .val (.int (2 : Int32)), .val (.int (Int32.ofNat dn)), .val (.ref b3), .val (.ref b17), .val (.ref b43), .unset, .unset] [(.ref b43), (.long y16_1), (.ref b17)])) rfl (by rw [hml]; rfl) (Steps.refl _) (argsL := [(.long y16_1), (.ref b43)]) (rest := []) (lenOf pd_8 rfl) rfl (by show 2 * 0 + _ ≤ _; exact Nat.le_of_eq rfl) (hb hby at_144) (fun _ _ => ⟨rfl, rfl, (by decide : 8 + 0 ≤ _), (by decide : 41 + 0 ≤ _)⟩)
    dsimp only [Pt.U, Pt.locs, Pt.cells, Pt.slots] at X129 l129 y129 z129 st129 hQ129
    obtain rfl : k129 = 8 := y129; obtain rfl : n129 = 41 := z129
    obtain ⟨rfl, N129q, K129q, f129_0, f129_1, f129_2, f129_3, f129_4, f129_5, f129_6⟩ := hQ129
    have N129 : Fr n0 L129 := Eq.mpr (congrArg (Fr n0) l129) (Fr.app N122 N129q)
    have Z129 : n0 ≤ T129.heap.size := Nat.le_trans Z122 K129q.1
    have c130 : Arv Z T129.heap b3 k3 .long (4 : Int32) [(.long y14_0), (.long y16_1), (.long y16_2), (.long y15_3)] (.long (0 : Int64)) := c123.keep K129q (ninS ne18 (ninS nevn122_b3 (ninS nevo122_b3 nin0)))
    have c131 : Exa Z T129.heap b20 "com/example/causeline/causeline/core/CopyTable" := c124.keep K129q
    have c132 : Exa Z T129.heap b43 "com/example/causeline/causeline/core/Waiting" := c126.keep K129q
    have c133 : Fld Z T129.heap b43 "com/example/causeline/causeline/core/Waiting" "order" "J" (.long (7 : Int64)) := c127.keep K129q (ninS (Ne.symm ne46) (ninS nevn122_b43 (ninS nevo122_b43 nin0)))
    have c134 : Exa Z T129.heap b17 "com/example/causeline/causeline/core/Filing" := fa122_0.keep K129q
    have K129 : Keep h0 T129.heap [] := K122.trans K129q (allS (Or.inr sz_b17) (allS (Or.inr sz_vn122) (allS (Or.inr sz_vo122) all0)))
    obtain ⟨cq135, kq135, q135a, q135b, q135c⟩ := isOf hZ rfl f129_0
    obtain ⟨_, _, ⟨T135, L135, k135, n135⟩, -, X135, ⟨Lc135, hQ135, l135, y135, z135⟩, st135⟩ := X129.virtualBack hx (y := (⟨"com/example/causeline/causeline/core/Filing", "removeBefore", "(I)I"⟩ : MethodName)) (z := (⟨"com/example/causeline/causeline/core/Filing", "removeBefore", "(I)I"⟩ : MethodName)) hown (mvT hZ (hw _ (List.mem_of_getElem? (i := 83) rfl))) (mvT hZ (hw _ (List.mem_of_getElem? (i := 84) rfl))) (notFace_of_selects (args := #[]) (mvT hZ (hw _ (List.mem_of_getElem? (i := 86) rfl)))) (mvT hZ (hw _ (List.mem_of_getElem? (i := 86) rfl))) (mvT hZ (hw _ (List.mem_of_getElem? (i := 85) rfl))) (by decide) (backOf (W := 0) (rm9 l Z a0 hw [] b17 (Int32.ofNat dn) vn122 (0 : Int32) (2 : Int32) T129.heap n0 Z129 f129_0 f129_1 f129_3 f129_4 g_b17) hZ (hw _ (List.mem_of_getElem? (i := 87) rfl)) (hw _ (List.mem_of_getElem? (i := 7) rfl)) (by decide) (by decide)) q135a q135c (g := (mkF m 185 #[.val (.long va_), .second, .val (.long vb_), .second, .val (.long vc_), .second, .val (.long ve_), .second, .val (.long vq), .second, .val (.int vctl), .val (.int (2 : Int32)), .val (.int (Int32.ofNat dn)), .val (.ref b3), .val (.ref b17), .val (.ref b43), .unset, .unset] [(.int (Int32.ofNat dn)), (.ref b17)])) rfl (by rw [hml]; rfl) (Steps.refl _) (argsL := [(.int (Int32.ofNat dn))]) (rest := []) (lenOf pd_5 rfl) rfl (by show 2 * 0 + _ ≤ _; exact Nat.le_of_eq rfl) (hb hby at_185) (fun _ _ => ⟨rfl, rfl, (by decide : 8 + 0 ≤ _), (by decide : 41 + 0 ≤ _)⟩)
    dsimp only [Pt.U, Pt.locs, Pt.cells, Pt.slots] at X135 l135 y135 z135 st135 hQ135
    obtain rfl : k135 = 8 := y135; obtain rfl : n135 = 41 := z135
    obtain ⟨rfl, N135q, K135q, f135_0, f135_1, f135_2, f135_3⟩ := hQ135
    have N135 : Fr n0 L135 := Eq.mpr (congrArg (Fr n0) l135) (Fr.app N129 N135q)
    have Z135 : n0 ≤ T135.heap.size := Nat.le_trans Z129 K135q.1
    have c136 : Arv Z T135.heap b3 k3 .long (4 : Int32) [(.long y14_0), (.long y16_1), (.long y16_2), (.long y15_3)] (.long (0 : Int64)) := c130.keep K135q (ninS ne18 nin0)
    have c137 : Exa Z T135.heap b20 "com/example/causeline/causeline/core/CopyTable" := c131.keep K135q
    have c138 : Exa Z T135.heap b43 "com/example/causeline/causeline/core/Waiting" := c132.keep K135q
    have c139 : Fld Z T135.heap b43 "com/example/causeline/causeline/core/Waiting" "order" "J" (.long (7 : Int64)) := c133.keep K135q (ninS (Ne.symm ne46) nin0)
    have c140 : Exa Z T135.heap b17 "com/example/causeline/causeline/core/Filing" := f129_0.keep K135q
    have c141 : Arv Z T135.heap vn122 kn122 .long (4 : Int32) [(.long y14_0), (.long y16_1), (.long (0 : Int64)), (.long (0 : Int64))] (.long (0 : Int64)) := f129_5.keep K135q (ninS (Ne.symm nevn122_b17) nin0)
    have c142 : Arv Z T135.heap vo122 ko122 .long (4 : Int32) [(.long (7 : Int64)), (.long (7 : Int64)), (.long (0 : Int64)), (.long (0 : Int64))] (.long (0 : Int64)) := f129_6.keep K135q (ninS (Ne.symm nevo122_b17) nin0)
    have K135 : Keep h0 T135.heap [] := K129.trans K135q (allS (Or.inr sz_b17) all0)
    have g143 : Fld Z T135.heap b17 "com/example/causeline/causeline/core/Filing" "first" "I" (.int (Int32.ofNat (if dn = 2 then 0 else dn))) := by have q := f135_2; rw [own_ef_n2 (own_w0 hdn (by decide))] at q; exact q
    have g144 : Fld Z T135.heap b17 "com/example/causeline/causeline/core/Filing" "end" "I" (.int (Int32.ofNat (if dn = 2 then 0 else 2))) := by have q := f135_3; rw [own_ee_n2 (own_w0 hdn (by decide))] at q; exact q
    obtain ⟨cq145, kq145, q145a, q145b, q145c⟩ := isOf hZ rfl f135_0
    obtain ⟨_, _, ⟨T145, L145, k145, n145⟩, -, X145, ⟨Lc145, hQ145, l145, y145, z145⟩, st145⟩ := X135.virtualBack hx (y := (⟨"com/example/causeline/causeline/core/Filing", "past", "(J)I"⟩ : MethodName)) (z := (⟨"com/example/causeline/causeline/core/Filing", "past", "(J)I"⟩ : MethodName)) hown (mvT hZ (hw _ (List.mem_of_getElem? (i := 92) rfl))) (mvT hZ (hw _ (List.mem_of_getElem? (i := 93) rfl))) (notFace_of_selects (args := #[]) (mvT hZ (hw _ (List.mem_of_getElem? (i := 95) rfl)))) (mvT hZ (hw _ (List.mem_of_getElem? (i := 95) rfl))) (mvT hZ (hw _ (List.mem_of_getElem? (i := 94) rfl))) (by decide) (backOf (W := 0) (rm11 l Z a0 hw [] b17 vq vn122 kn122 (4 : Int32) [y14_0, y16_1, (0 : Int64), (0 : Int64)] (if dn = 2 then 0 else dn) (if dn = 2 then 0 else 2) T135.heap n0 Z135 f135_1 g143 g144 c141 (own_w1 hdn (by decide)) (own_w2 hdn (by decide)) (own_w3 hdn (by decide)) (Or.inr rfl)) hZ (hw _ (List.mem_of_getElem? (i := 96) rfl)) (hw _ (List.mem_of_getElem? (i := 7) rfl)) (by decide) (by decide)) q145a q145c (g := (mkF m 193 #[.val (.long va_), .second, .val (.long vb_), .second, .val (.long vc_), .second, .val (.long ve_), .second, .val (.long vq), .second, .val (.int vctl), .val (.int (2 : Int32)), .val (.int (Int32.ofNat dn)), .val (.ref b3), .val (.ref b17), .val (.ref b43), .unset, .unset] [(.long vq), (.ref b17)])) rfl (by rw [hml]; rfl) (Steps.refl _) (argsL := [(.long vq)]) (rest := []) (lenOf pd_6 rfl) rfl (by show 2 * 0 + _ ≤ _; exact Nat.le_of_eq rfl) (hb hby at_193) (fun _ _ => ⟨rfl, rfl, (by decide : 8 + 0 ≤ _), (by decide : 41 + 0 ≤ _)⟩)
    dsimp only [Pt.U, Pt.locs, Pt.cells, Pt.slots] at X145 l145 y145 z145 st145 hQ145
    obtain rfl : k145 = 8 := y145; obtain rfl : n145 = 41 := z145
    obtain ⟨rfl, N145q, K145q⟩ := hQ145
    have N145 : Fr n0 L145 := Eq.mpr (congrArg (Fr n0) l145) (Fr.app N135 N145q)
    have Z145 : n0 ≤ T145.heap.size := Nat.le_trans Z135 K145q.1
    have c146 : Arv Z T145.heap b3 k3 .long (4 : Int32) [(.long y14_0), (.long y16_1), (.long y16_2), (.long y15_3)] (.long (0 : Int64)) := c136.keep K145q nin0
    have c147 : Exa Z T145.heap b20 "com/example/causeline/causeline/core/CopyTable" := c137.keep K145q
    have c148 : Exa Z T145.heap b43 "com/example/causeline/causeline/core/Waiting" := c138.keep K145q
    have c149 : Fld Z T145.heap b43 "com/example/causeline/causeline/core/Waiting" "order" "J" (.long (7 : Int64)) := c139.keep K145q nin0
    have c150 : Arv Z T145.heap vn122 kn122 .long (4 : Int32) [(.long y14_0), (.long y16_1), (.long (0 : Int64)), (.long (0 : Int64))] (.long (0 : Int64)) := c141.keep K145q nin0
    have c151 : Arv Z T145.heap vo122 ko122 .long (4 : Int32) [(.long (7 : Int64)), (.long (7 : Int64)), (.long (0 : Int64)), (.long (0 : Int64))] (.long (0 : Int64)) := c142.keep K145q nin0
    have c152 : Exa Z T145.heap b17 "com/example/causeline/causeline/core/Filing" := f135_0.keep K145q
    have c153 : Fld Z T145.heap b17 "com/example/causeline/causeline/core/Filing" "numbers" "[J" (.ref vn122) := f135_1.keep K145q nin0
    have c154 : Fld Z T145.heap b17 "com/example/causeline/causeline/core/Filing" "first" "I" (.int (Int32.ofNat (if dn = 2 then 0 else dn))) := g143.keep K145q nin0
    have c155 : Fld Z T145.heap b17 "com/example/causeline/causeline/core/Filing" "end" "I" (.int (Int32.ofNat (if dn = 2 then 0 else 2))) := g144.keep K145q nin0
    have K145 : Keep h0 T145.heap [] := K135.trans K145q all0
    have pre156 : ∀ t, Steps p.tables e below (T145.setTop (mkF m 202 #[.val (.long va_), .second, .val (.long vb_), .second, .val (.long vc_), .second, .val (.long ve_), .second, .val (.long vq), .second, .val (.int vctl), .val (.int (2 : Int32)), .val (.int (Int32.ofNat dn)), .val (.ref b3), .val (.ref b17), .val (.ref b43), .val (.int (Int32.ofNat (own_bs (own_g [y14_0, y16_1, (0 : Int64), (0 : Int64)] vq) 4 (if dn = 2 then 0 else dn) (if dn = 2 then 0 else 2)))), .unset] [(.int (2 : Int32)), (.int (Int32.ofNat dn))])) t → Steps p.tables e below (s₁.setTop (entryFrame m #[(.long va_), (.long vb_), (.long vc_), (.long ve_), (.long vq), (.int vctl)] maxLocals)) t := by
      intro t kt
      refine pre63 t ?_
      show Steps p.tables e below (T54.setTop (mkF m 114 #[.val (.long va_), .second, .val (.long vb_), .second, .val (.long vc_), .second, .val (.long ve_), .second, .val (.long vq), .second, .val (.int vctl), .val (.int (2 : Int32)), .val (.int (Int32.ofNat dn)), .val (.ref b3), .val (.ref b17), .val (.ref b43), .unset, .unset] [])) _
      refine XS.iload X54.here hx rfl (hb hby at_114) rfl ?_
      show Steps p.tables e below (T54.setTop (mkF m 116 #[.val (.long va_), .second, .val (.long vb_), .second, .val (.long vc_), .second, .val (.long ve_), .second, .val (.long vq), .second, .val (.int vctl), .val (.int (2 : Int32)), .val (.int (Int32.ofNat dn)), .val (.ref b3), .val (.ref b17), .val (.ref b43), .unset, .unset] [(.int (2 : Int32))])) _
      refine XS.ifNo X54.here hx rfl (hb hby at_116) rfl ((if0 _ _).trans (tlt ((by decide) : (0 : Int32) < (2 : Int32))).2.2.2) ?_
      show Steps p.tables e below (T54.setTop (mkF m 119 #[.val (.long va_), .second, .val (.long vb_), .second, .val (.long vc_), .second, .val (.long ve_), .second, .val (.long vq), .second, .val (.int vctl), .val (.int (2 : Int32)), .val (.int (Int32.ofNat dn)), .val (.ref b3), .val (.ref b17), .val (.ref b43), .unset, .unset] [])) _
      refine XS.aload X54.here hx rfl (hb hby at_119) rfl rfl ?_
      show Steps p.tables e below (T54.setTop (mkF m 121 #[.val (.long va_), .second, .val (.long vb_), .second, .val (.long vc_), .second, .val (.long ve_), .second, .val (.long vq), .second, .val (.int vctl), .val (.int (2 : Int32)), .val (.int (Int32.ofNat dn)), .val (.ref b3), .val (.ref b17), .val (.ref b43), .unset, .unset] [(.ref b17)])) _
      refine XS.aload X54.here hx rfl (hb hby at_121) rfl rfl ?_
      show Steps p.tables e below (T54.setTop (mkF m 123 #[.val (.long va_), .second, .val (.long vb_), .second, .val (.long vc_), .second, .val (.long ve_), .second, .val (.long vq), .second, .val (.int vctl), .val (.int (2 : Int32)), .val (.int (Int32.ofNat dn)), .val (.ref b3), .val (.ref b17), .val (.ref b43), .unset, .unset] [(.ref b3), (.ref b17)])) _
      refine XS.iconst X54.here hx rfl (hb hby at_123) ?_
      show Steps p.tables e below (T54.setTop (mkF m 124 #[.val (.long va_), .second, .val (.long vb_), .second, .val (.long vc_), .second, .val (.long ve_), .second, .val (.long vq), .second, .val (.int vctl), .val (.int (2 : Int32)), .val (.int (Int32.ofNat dn)), .val (.ref b3), .val (.ref b17), .val (.ref b43), .unset, .unset] [(.int (0 : Int32)), (.ref b3), (.ref b17)])) _
      refine X54.laload hx (j := (0 : Int32)) (v := (.long y14_0)) (by exact Ar121.1) (State.isArrayOf_alike hZ.alike Ar121.2.1) Ar121.2.2 hin121 hat121 (g := (mkF m 124 #[.val (.long va_), .second, .val (.long vb_), .second, .val (.long vc_), .second, .val (.long ve_), .second, .val (.long vq), .second, .val (.int vctl), .val (.int (2 : Int32)), .val (.int (Int32.ofNat dn)), .val (.ref b3), .val (.ref b17), .val (.ref b43), .unset, .unset] [(.int (0 : Int32)), (.ref b3), (.ref b17)])) rfl rfl (hb hby at_124) _ ?_
      show Steps p.tables e below (T54.setTop (mkF m 125 #[.val (.long va_), .second, .val (.long vb_), .second, .val (.long vc_), .second, .val (.long ve_), .second, .val (.long vq), .second, .val (.int vctl), .val (.int (2 : Int32)), .val (.int (Int32.ofNat dn)), .val (.ref b3), .val (.ref b17), .val (.ref b43), .unset, .unset] [(.long y14_0), (.ref b17)])) _
      refine XS.aload X54.here hx rfl (hb hby at_125) rfl rfl ?_
      show Steps p.tables e below (T54.setTop (mkF m 127 #[.val (.long va_), .second, .val (.long vb_), .second, .val (.long vc_), .second, .val (.long ve_), .second, .val (.long vq), .second, .val (.int vctl), .val (.int (2 : Int32)), .val (.int (Int32.ofNat dn)), .val (.ref b3), .val (.ref b17), .val (.ref b43), .unset, .unset] [(.ref b43), (.long y14_0), (.ref b17)])) _
      refine st122.trans ?_
      show Steps p.tables e below (T122.setTop (mkF m 130 #[.val (.long va_), .second, .val (.long vb_), .second, .val (.long vc_), .second, .val (.long ve_), .second, .val (.long vq), .second, .val (.int vctl), .val (.int (2 : Int32)), .val (.int (Int32.ofNat dn)), .val (.ref b3), .val (.ref b17), .val (.ref b43), .unset, .unset] [])) _
      refine XS.iload X122.here hx rfl (hb hby at_130) rfl ?_
      show Steps p.tables e below (T122.setTop (mkF m 132 #[.val (.long va_), .second, .val (.long vb_), .second, .val (.long vc_), .second, .val (.long ve_), .second, .val (.long vq), .second, .val (.int vctl), .val (.int (2 : Int32)), .val (.int (Int32.ofNat dn)), .val (.ref b3), .val (.ref b17), .val (.ref b43), .unset, .unset] [(.int (2 : Int32))])) _
      refine XS.iconst X122.here hx rfl (hb hby at_132) ?_
      show Steps p.tables e below (T122.setTop (mkF m 133 #[.val (.long va_), .second, .val (.long vb_), .second, .val (.long vc_), .second, .val (.long ve_), .second, .val (.long vq), .second, .val (.int vctl), .val (.int (2 : Int32)), .val (.int (Int32.ofNat dn)), .val (.ref b3), .val (.ref b17), .val (.ref b43), .unset, .unset] [(.int (1 : Int32)), (.int (2 : Int32))])) _
      refine XS.icmpNo X122.here hx rfl (hb hby at_133) rfl (tlt ((by decide) : (1 : Int32) < (2 : Int32))).2.2.2 ?_
      show Steps p.tables e below (T122.setTop (mkF m 136 #[.val (.long va_), .second, .val (.long vb_), .second, .val (.long vc_), .second, .val (.long ve_), .second, .val (.long vq), .second, .val (.int vctl), .val (.int (2 : Int32)), .val (.int (Int32.ofNat dn)), .val (.ref b3), .val (.ref b17), .val (.ref b43), .unset, .unset] [])) _
      refine XS.aload X122.here hx rfl (hb hby at_136) rfl rfl ?_
      show Steps p.tables e below (T122.setTop (mkF m 138 #[.val (.long va_), .second, .val (.long vb_), .second, .val (.long vc_), .second, .val (.long ve_), .second, .val (.long vq), .second, .val (.int vctl), .val (.int (2 : Int32)), .val (.int (Int32.ofNat dn)), .val (.ref b3), .val (.ref b17), .val (.ref b43), .unset, .unset] [(.ref b17)])) _
      refine XS.aload X122.here hx rfl (hb hby at_138) rfl rfl ?_
      show Steps p.tables e below (T122.setTop (mkF m 140 #[.val (.long va_), .second, .val (.long vb_), .second, .val (.long vc_), .second, .val (.long ve_), .second, .val (.long vq), .second, .val (.int vctl), .val (.int (2 : Int32)), .val (.int (Int32.ofNat dn)), .val (.ref b3), .val (.ref b17), .val (.ref b43), .unset, .unset] [(.ref b3), (.ref b17)])) _
      refine XS.iconst X122.here hx rfl (hb hby at_140) ?_
      show Steps p.tables e below (T122.setTop (mkF m 141 #[.val (.long va_), .second, .val (.long vb_), .second, .val (.long vc_), .second, .val (.long ve_), .second, .val (.long vq), .second, .val (.int vctl), .val (.int (2 : Int32)), .val (.int (Int32.ofNat dn)), .val (.ref b3), .val (.ref b17), .val (.ref b43), .unset, .unset] [(.int (1 : Int32)), (.ref b3), (.ref b17)])) _
      refine X122.laload hx (j := (1 : Int32)) (v := (.long y16_1)) (by exact Ar128.1) (State.isArrayOf_alike hZ.alike Ar128.2.1) Ar128.2.2 hin128 hat128 (g := (mkF m 141 #[.val (.long va_), .second, .val (.long vb_), .second, .val (.long vc_), .second, .val (.long ve_), .second, .val (.long vq), .second, .val (.int vctl), .val (.int (2 : Int32)), .val (.int (Int32.ofNat dn)), .val (.ref b3), .val (.ref b17), .val (.ref b43), .unset, .unset] [(.int (1 : Int32)), (.ref b3), (.ref b17)])) rfl rfl (hb hby at_141) _ ?_
      show Steps p.tables e below (T122.setTop (mkF m 142 #[.val (.long va_), .second, .val (.long vb_), .second, .val (.long vc_), .second, .val (.long ve_), .second, .val (.long vq), .second, .val (.int vctl), .val (.int (2 : Int32)), .val (.int (Int32.ofNat dn)), .val (.ref b3), .val (.ref b17), .val (.ref b43), .unset, .unset] [(.long y16_1), (.ref b17)])) _
      refine XS.aload X122.here hx rfl (hb hby at_142) rfl rfl ?_
      show Steps p.tables e below (T122.setTop (mkF m 144 #[.val (.long va_), .second, .val (.long vb_), .second, .val (.long vc_), .second, .val (.long ve_), .second, .val (.long vq), .second, .val (.int vctl), .val (.int (2 : Int32)), .val (.int (Int32.ofNat dn)), .val (.ref b3), .val (.ref b17), .val (.ref b43), .unset, .unset] [(.ref b43), (.long y16_1), (.ref b17)])) _
      refine st129.trans ?_
      show Steps p.tables e below (T129.setTop (mkF m 147 #[.val (.long va_), .second, .val (.long vb_), .second, .val (.long vc_), .second, .val (.long ve_), .second, .val (.long vq), .second, .val (.int vctl), .val (.int (2 : Int32)), .val (.int (Int32.ofNat dn)), .val (.ref b3), .val (.ref b17), .val (.ref b43), .unset, .unset] [])) _
      refine XS.iload X129.here hx rfl (hb hby at_147) rfl ?_
      show Steps p.tables e below (T129.setTop (mkF m 149 #[.val (.long va_), .second, .val (.long vb_), .second, .val (.long vc_), .second, .val (.long ve_), .second, .val (.long vq), .second, .val (.int vctl), .val (.int (2 : Int32)), .val (.int (Int32.ofNat dn)), .val (.ref b3), .val (.ref b17), .val (.ref b43), .unset, .unset] [(.int (2 : Int32))])) _
      refine XS.iconst X129.here hx rfl (hb hby at_149) ?_
      show Steps p.tables e below (T129.setTop (mkF m 150 #[.val (.long va_), .second, .val (.long vb_), .second, .val (.long vc_), .second, .val (.long ve_), .second, .val (.long vq), .second, .val (.int vctl), .val (.int (2 : Int32)), .val (.int (Int32.ofNat dn)), .val (.ref b3), .val (.ref b17), .val (.ref b43), .unset, .unset] [(.int (2 : Int32)), (.int (2 : Int32))])) _
      refine XS.icmpYes X129.here hx rfl (pc0 := 150) (pc' := 164) rfl (hb hby at_150) rfl (flt ((by decide) : ¬ ((2 : Int32) < (2 : Int32)))).2.2.2 (by decide) (by decide) ?_
      show Steps p.tables e below (T129.setTop (mkF m 164 #[.val (.long va_), .second, .val (.long vb_), .second, .val (.long vc_), .second, .val (.long ve_), .second, .val (.long vq), .second, .val (.int vctl), .val (.int (2 : Int32)), .val (.int (Int32.ofNat dn)), .val (.ref b3), .val (.ref b17), .val (.ref b43), .unset, .unset] [])) _
      refine XS.iload X129.here hx rfl (hb hby at_164) rfl ?_
      show Steps p.tables e below (T129.setTop (mkF m 166 #[.val (.long va_), .second, .val (.long vb_), .second, .val (.long vc_), .second, .val (.long ve_), .second, .val (.long vq), .second, .val (.int vctl), .val (.int (2 : Int32)), .val (.int (Int32.ofNat dn)), .val (.ref b3), .val (.ref b17), .val (.ref b43), .unset, .unset] [(.int (2 : Int32))])) _
      refine XS.iconst X129.here hx rfl (hb hby at_166) ?_
      show Steps p.tables e below (T129.setTop (mkF m 167 #[.val (.long va_), .second, .val (.long vb_), .second, .val (.long vc_), .second, .val (.long ve_), .second, .val (.long vq), .second, .val (.int vctl), .val (.int (2 : Int32)), .val (.int (Int32.ofNat dn)), .val (.ref b3), .val (.ref b17), .val (.ref b43), .unset, .unset] [(.int (3 : Int32)), (.int (2 : Int32))])) _
      refine XS.icmpYes X129.here hx rfl (pc0 := 167) (pc' := 181) rfl (hb hby at_167) rfl (flt ((by decide) : ¬ ((3 : Int32) < (2 : Int32)))).2.2.2 (by decide) (by decide) ?_
      show Steps p.tables e below (T129.setTop (mkF m 181 #[.val (.long va_), .second, .val (.long vb_), .second, .val (.long vc_), .second, .val (.long ve_), .second, .val (.long vq), .second, .val (.int vctl), .val (.int (2 : Int32)), .val (.int (Int32.ofNat dn)), .val (.ref b3), .val (.ref b17), .val (.ref b43), .unset, .unset] [])) _
      refine XS.aload X129.here hx rfl (hb hby at_181) rfl rfl ?_
      show Steps p.tables e below (T129.setTop (mkF m 183 #[.val (.long va_), .second, .val (.long vb_), .second, .val (.long vc_), .second, .val (.long ve_), .second, .val (.long vq), .second, .val (.int vctl), .val (.int (2 : Int32)), .val (.int (Int32.ofNat dn)), .val (.ref b3), .val (.ref b17), .val (.ref b43), .unset, .unset] [(.ref b17)])) _
      refine XS.iload X129.here hx rfl (hb hby at_183) rfl ?_
      show Steps p.tables e below (T129.setTop (mkF m 185 #[.val (.long va_), .second, .val (.long vb_), .second, .val (.long vc_), .second, .val (.long ve_), .second, .val (.long vq), .second, .val (.int vctl), .val (.int (2 : Int32)), .val (.int (Int32.ofNat dn)), .val (.ref b3), .val (.ref b17), .val (.ref b43), .unset, .unset] [(.int (Int32.ofNat dn)), (.ref b17)])) _
      refine st135.trans ?_
      show Steps p.tables e below (T135.setTop (mkF m 188 #[.val (.long va_), .second, .val (.long vb_), .second, .val (.long vc_), .second, .val (.long ve_), .second, .val (.long vq), .second, .val (.int vctl), .val (.int (2 : Int32)), .val (.int (Int32.ofNat dn)), .val (.ref b3), .val (.ref b17), .val (.ref b43), .unset, .unset] [(.int ((Int32.ofNat dn) - (0 : Int32)))])) _
      refine XS.pop X135.here hx rfl (hb hby at_188) rfl rfl ?_
      show Steps p.tables e below (T135.setTop (mkF m 189 #[.val (.long va_), .second, .val (.long vb_), .second, .val (.long vc_), .second, .val (.long ve_), .second, .val (.long vq), .second, .val (.int vctl), .val (.int (2 : Int32)), .val (.int (Int32.ofNat dn)), .val (.ref b3), .val (.ref b17), .val (.ref b43), .unset, .unset] [])) _
      refine XS.aload X135.here hx rfl (hb hby at_189) rfl rfl ?_
      show Steps p.tables e below (T135.setTop (mkF m 191 #[.val (.long va_), .second, .val (.long vb_), .second, .val (.long vc_), .second, .val (.long ve_), .second, .val (.long vq), .second, .val (.int vctl), .val (.int (2 : Int32)), .val (.int (Int32.ofNat dn)), .val (.ref b3), .val (.ref b17), .val (.ref b43), .unset, .unset] [(.ref b17)])) _
      refine XS.lload X135.here hx rfl (hb hby at_191) rfl ?_
      show Steps p.tables e below (T135.setTop (mkF m 193 #[.val (.long va_), .second, .val (.long vb_), .second, .val (.long vc_), .second, .val (.long ve_), .second, .val (.long vq), .second, .val (.int vctl), .val (.int (2 : Int32)), .val (.int (Int32.ofNat dn)), .val (.ref b3), .val (.ref b17), .val (.ref b43), .unset, .unset] [(.long vq), (.ref b17)])) _
      refine st145.trans ?_
      show Steps p.tables e below (T145.setTop (mkF m 196 #[.val (.long va_), .second, .val (.long vb_), .second, .val (.long vc_), .second, .val (.long ve_), .second, .val (.long vq), .second, .val (.int vctl), .val (.int (2 : Int32)), .val (.int (Int32.ofNat dn)), .val (.ref b3), .val (.ref b17), .val (.ref b43), .unset, .unset] [(.int (Int32.ofNat (own_bs (own_g [y14_0, y16_1, (0 : Int64), (0 : Int64)] vq) 4 (if dn = 2 then 0 else dn) (if dn = 2 then 0 else 2))))])) _
      refine XS.istore X145.here hx rfl (hb hby at_196) rfl (l' := #[.val (.long va_), .second, .val (.long vb_), .second, .val (.long vc_), .second, .val (.long ve_), .second, .val (.long vq), .second, .val (.int vctl), .val (.int (2 : Int32)), .val (.int (Int32.ofNat dn)), .val (.ref b3), .val (.ref b17), .val (.ref b43), .val (.int (Int32.ofNat (own_bs (own_g [y14_0, y16_1, (0 : Int64), (0 : Int64)] vq) 4 (if dn = 2 then 0 else dn) (if dn = 2 then 0 else 2)))), .unset]) rfl ?_
      show Steps p.tables e below (T145.setTop (mkF m 198 #[.val (.long va_), .second, .val (.long vb_), .second, .val (.long vc_), .second, .val (.long ve_), .second, .val (.long vq), .second, .val (.int vctl), .val (.int (2 : Int32)), .val (.int (Int32.ofNat dn)), .val (.ref b3), .val (.ref b17), .val (.ref b43), .val (.int (Int32.ofNat (own_bs (own_g [y14_0, y16_1, (0 : Int64), (0 : Int64)] vq) 4 (if dn = 2 then 0 else dn) (if dn = 2 then 0 else 2)))), .unset] [])) _
      refine XS.iload X145.here hx rfl (hb hby at_198) rfl ?_
      show Steps p.tables e below (T145.setTop (mkF m 200 #[.val (.long va_), .second, .val (.long vb_), .second, .val (.long vc_), .second, .val (.long ve_), .second, .val (.long vq), .second, .val (.int vctl), .val (.int (2 : Int32)), .val (.int (Int32.ofNat dn)), .val (.ref b3), .val (.ref b17), .val (.ref b43), .val (.int (Int32.ofNat (own_bs (own_g [y14_0, y16_1, (0 : Int64), (0 : Int64)] vq) 4 (if dn = 2 then 0 else dn) (if dn = 2 then 0 else 2)))), .unset] [(.int (Int32.ofNat dn))])) _
      refine XS.iload X145.here hx rfl (hb hby at_200) rfl ?_
      exact kt
    by_cases hc157 : (Int32.ofNat dn) < (2 : Int32)
    ·
      obtain ⟨_, _, ⟨T158, L158, k158, n158⟩, -, X158, ⟨Lc158, hQ158, l158, y158, z158⟩, st158⟩ := Jvm.LawKit.callS X145 hx (y := (⟨"com/example/causeline/causeline/core/FilingPastPinLaw", "in", "([JIIIJ)I"⟩ : MethodName)) hown (mvT hZ (hw _ (List.mem_of_getElem? (i := 97) rfl))) (mvT hZ (hw _ (List.mem_of_getElem? (i := 98) rfl))) (mvT hZ (hw _ (List.mem_of_getElem? (i := 3) rfl))) (mvT hZ (hw _ (List.mem_of_getElem? (i := 99) rfl))) (by decide) (backOf (W := 1) (rmIn0 l Z a0 hw [] b3 (Int32.ofNat dn) (2 : Int32) vq y14_0 y16_1 y16_2 y15_3 k3 T145.heap n0 Z145 c146) hZ (hw _ (List.mem_of_getElem? (i := 99) rfl)) (hw _ (List.mem_of_getElem? (i := 3) rfl)) (by decide) (by decide)) (g := (mkF m 216 #[.val (.long va_), .second, .val (.long vb_), .second, .val (.long vc_), .second, .val (.long ve_), .second, .val (.long vq), .second, .val (.int vctl), .val (.int (2 : Int32)), .val (.int (Int32.ofNat dn)), .val (.ref b3), .val (.ref b17), .val (.ref b43), .val (.int (Int32.ofNat (own_bs (own_g [y14_0, y16_1, (0 : Int64), (0 : Int64)] vq) 4 (if dn = 2 then 0 else dn) (if dn = 2 then 0 else 2)))), .unset] [(.long vq), (.int (2 : Int32)), (.int (Int32.ofNat dn)), (.int (0 : Int32)), (.ref b3), (.int (Int32.ofNat dn))])) rfl (by rw [hml]; rfl) (argsL := [(.ref b3), (.int (0 : Int32)), (.int (Int32.ofNat dn)), (.int (2 : Int32)), (.long vq)]) (rest := [(.int (Int32.ofNat dn))]) (lenOf pd_7 rfl) rfl (by show 2 * 0 + _ ≤ _; exact Nat.le_of_eq rfl) (hb hby at_216) (fun _ _ => ⟨rfl, rfl, (by decide : 8 + 0 ≤ _), (by decide : 41 + 0 ≤ _)⟩)
      dsimp only [Pt.U, Pt.locs, Pt.cells, Pt.slots] at X158 l158 y158 z158 st158 hQ158
      obtain rfl : k158 = 8 := y158; obtain rfl : n158 = 41 := z158
      obtain ⟨rfl, N158q, e158q⟩ := hQ158
      have N158 : Fr n0 L158 := Eq.mpr (congrArg (Fr n0) l158) (Fr.app N145 N158q)
      obtain ⟨_, _, ⟨T159, L159, k159, n159⟩, -, X159, ⟨Lc159, hQ159, l159, y159, z159⟩, st159⟩ := Jvm.LawKit.callS X158 hx (y := (⟨"com/example/causeline/causeline/core/FilingPastPinLaw", "in", "([JIIIJ)I"⟩ : MethodName)) hown (mvT hZ (hw _ (List.mem_of_getElem? (i := 97) rfl))) (mvT hZ (hw _ (List.mem_of_getElem? (i := 98) rfl))) (mvT hZ (hw _ (List.mem_of_getElem? (i := 3) rfl))) (mvT hZ (hw _ (List.mem_of_getElem? (i := 99) rfl))) (by decide) (backOf (W := 1) (rmIn1 l Z a0 hw [] b3 (Int32.ofNat dn) (2 : Int32) vq y14_0 y16_1 y16_2 y15_3 k3 T145.heap n0 Z145 c146) hZ (hw _ (List.mem_of_getElem? (i := 99) rfl)) (hw _ (List.mem_of_getElem? (i := 3) rfl)) (by decide) (by decide)) (g := (mkF m 229 #[.val (.long va_), .second, .val (.long vb_), .second, .val (.long vc_), .second, .val (.long ve_), .second, .val (.long vq), .second, .val (.int vctl), .val (.int (2 : Int32)), .val (.int (Int32.ofNat dn)), .val (.ref b3), .val (.ref b17), .val (.ref b43), .val (.int (Int32.ofNat (own_bs (own_g [y14_0, y16_1, (0 : Int64), (0 : Int64)] vq) 4 (if dn = 2 then 0 else dn) (if dn = 2 then 0 else 2)))), .unset] [(.long vq), (.int (2 : Int32)), (.int (Int32.ofNat dn)), (.int (1 : Int32)), (.ref b3), (.int ((Int32.ofNat dn) + (own_in0 b3 (Int32.ofNat dn) (2 : Int32) vq y14_0 y16_1 y16_2 y15_3)))])) rfl (by rw [hml]; rfl) (argsL := [(.ref b3), (.int (1 : Int32)), (.int (Int32.ofNat dn)), (.int (2 : Int32)), (.long vq)]) (rest := [(.int ((Int32.ofNat dn) + (own_in0 b3 (Int32.ofNat dn) (2 : Int32) vq y14_0 y16_1 y16_2 y15_3)))]) (lenOf pd_7 rfl) rfl (by show 2 * 0 + _ ≤ _; exact Nat.le_of_eq rfl) (hb hby at_229) (fun _ _ => ⟨rfl, e158q, (by decide : 8 + 0 ≤ _), (by decide : 41 + 0 ≤ _)⟩)
      dsimp only [Pt.U, Pt.locs, Pt.cells, Pt.slots] at X159 l159 y159 z159 st159 hQ159
      obtain rfl : k159 = 8 := y159; obtain rfl : n159 = 41 := z159
      obtain ⟨rfl, N159q, e159q⟩ := hQ159
      have N159 : Fr n0 L159 := Eq.mpr (congrArg (Fr n0) l159) (Fr.app N158 N159q)
      obtain ⟨_, _, ⟨T160, L160, k160, n160⟩, -, X160, ⟨Lc160, hQ160, l160, y160, z160⟩, st160⟩ := Jvm.LawKit.callS X159 hx (y := (⟨"com/example/causeline/causeline/core/FilingPastPinLaw", "in", "([JIIIJ)I"⟩ : MethodName)) hown (mvT hZ (hw _ (List.mem_of_getElem? (i := 97) rfl))) (mvT hZ (hw _ (List.mem_of_getElem? (i := 98) rfl))) (mvT hZ (hw _ (List.mem_of_getElem? (i := 3) rfl))) (mvT hZ (hw _ (List.mem_of_getElem? (i := 99) rfl))) (by decide) (backOf (W := 1) (rmIn2 l Z a0 hw [] b3 (Int32.ofNat dn) (2 : Int32) vq y14_0 y16_1 y16_2 y15_3 k3 T145.heap n0 Z145 c146) hZ (hw _ (List.mem_of_getElem? (i := 99) rfl)) (hw _ (List.mem_of_getElem? (i := 3) rfl)) (by decide) (by decide)) (g := (mkF m 242 #[.val (.long va_), .second, .val (.long vb_), .second, .val (.long vc_), .second, .val (.long ve_), .second, .val (.long vq), .second, .val (.int vctl), .val (.int (2 : Int32)), .val (.int (Int32.ofNat dn)), .val (.ref b3), .val (.ref b17), .val (.ref b43), .val (.int (Int32.ofNat (own_bs (own_g [y14_0, y16_1, (0 : Int64), (0 : Int64)] vq) 4 (if dn = 2 then 0 else dn) (if dn = 2 then 0 else 2)))), .unset] [(.long vq), (.int (2 : Int32)), (.int (Int32.ofNat dn)), (.int (2 : Int32)), (.ref b3), (.int (((Int32.ofNat dn) + (own_in0 b3 (Int32.ofNat dn) (2 : Int32) vq y14_0 y16_1 y16_2 y15_3)) + (own_in1 b3 (Int32.ofNat dn) (2 : Int32) vq y14_0 y16_1 y16_2 y15_3)))])) rfl (by rw [hml]; rfl) (argsL := [(.ref b3), (.int (2 : Int32)), (.int (Int32.ofNat dn)), (.int (2 : Int32)), (.long vq)]) (rest := [(.int (((Int32.ofNat dn) + (own_in0 b3 (Int32.ofNat dn) (2 : Int32) vq y14_0 y16_1 y16_2 y15_3)) + (own_in1 b3 (Int32.ofNat dn) (2 : Int32) vq y14_0 y16_1 y16_2 y15_3)))]) (lenOf pd_7 rfl) rfl (by show 2 * 0 + _ ≤ _; exact Nat.le_of_eq rfl) (hb hby at_242) (fun _ _ => ⟨rfl, e159q, (by decide : 8 + 0 ≤ _), (by decide : 41 + 0 ≤ _)⟩)
      dsimp only [Pt.U, Pt.locs, Pt.cells, Pt.slots] at X160 l160 y160 z160 st160 hQ160
      obtain rfl : k160 = 8 := y160; obtain rfl : n160 = 41 := z160
      obtain ⟨rfl, N160q, e160q⟩ := hQ160
      have N160 : Fr n0 L160 := Eq.mpr (congrArg (Fr n0) l160) (Fr.app N159 N160q)
      obtain ⟨_, _, ⟨T161, L161, k161, n161⟩, -, X161, ⟨Lc161, hQ161, l161, y161, z161⟩, st161⟩ := Jvm.LawKit.callS X160 hx (y := (⟨"com/example/causeline/causeline/core/FilingPastPinLaw", "in", "([JIIIJ)I"⟩ : MethodName)) hown (mvT hZ (hw _ (List.mem_of_getElem? (i := 97) rfl))) (mvT hZ (hw _ (List.mem_of_getElem? (i := 98) rfl))) (mvT hZ (hw _ (List.mem_of_getElem? (i := 3) rfl))) (mvT hZ (hw _ (List.mem_of_getElem? (i := 99) rfl))) (by decide) (backOf (W := 1) (rmIn3 l Z a0 hw [] b3 (Int32.ofNat dn) (2 : Int32) vq y14_0 y16_1 y16_2 y15_3 k3 T145.heap n0 Z145 c146) hZ (hw _ (List.mem_of_getElem? (i := 99) rfl)) (hw _ (List.mem_of_getElem? (i := 3) rfl)) (by decide) (by decide)) (g := (mkF m 255 #[.val (.long va_), .second, .val (.long vb_), .second, .val (.long vc_), .second, .val (.long ve_), .second, .val (.long vq), .second, .val (.int vctl), .val (.int (2 : Int32)), .val (.int (Int32.ofNat dn)), .val (.ref b3), .val (.ref b17), .val (.ref b43), .val (.int (Int32.ofNat (own_bs (own_g [y14_0, y16_1, (0 : Int64), (0 : Int64)] vq) 4 (if dn = 2 then 0 else dn) (if dn = 2 then 0 else 2)))), .unset] [(.long vq), (.int (2 : Int32)), (.int (Int32.ofNat dn)), (.int (3 : Int32)), (.ref b3), (.int ((((Int32.ofNat dn) + (own_in0 b3 (Int32.ofNat dn) (2 : Int32) vq y14_0 y16_1 y16_2 y15_3)) + (own_in1 b3 (Int32.ofNat dn) (2 : Int32) vq y14_0 y16_1 y16_2 y15_3)) + (own_in2 b3 (Int32.ofNat dn) (2 : Int32) vq y14_0 y16_1 y16_2 y15_3)))])) rfl (by rw [hml]; rfl) (argsL := [(.ref b3), (.int (3 : Int32)), (.int (Int32.ofNat dn)), (.int (2 : Int32)), (.long vq)]) (rest := [(.int ((((Int32.ofNat dn) + (own_in0 b3 (Int32.ofNat dn) (2 : Int32) vq y14_0 y16_1 y16_2 y15_3)) + (own_in1 b3 (Int32.ofNat dn) (2 : Int32) vq y14_0 y16_1 y16_2 y15_3)) + (own_in2 b3 (Int32.ofNat dn) (2 : Int32) vq y14_0 y16_1 y16_2 y15_3)))]) (lenOf pd_7 rfl) rfl (by show 2 * 0 + _ ≤ _; exact Nat.le_of_eq rfl) (hb hby at_255) (fun _ _ => ⟨rfl, e160q, (by decide : 8 + 0 ≤ _), (by decide : 41 + 0 ≤ _)⟩)
      dsimp only [Pt.U, Pt.locs, Pt.cells, Pt.slots] at X161 l161 y161 z161 st161 hQ161
      obtain rfl : k161 = 8 := y161; obtain rfl : n161 = 41 := z161
      obtain ⟨rfl, N161q, e161q⟩ := hQ161
      have N161 : Fr n0 L161 := Eq.mpr (congrArg (Fr n0) l161) (Fr.app N160 N161q)
      obtain ⟨fs, hr, hrun, hended, hW, hsame⟩ := X161.leave (v := some (.int (1 : Int32))) (fun h => by rw [Bd.returns] at h; cases h) (hlocks := BodyLoose.notSynchronized Bd)
      refine ⟨_, _, pre156 _ ?_, hrun, hended, _, _, rfl, ?_, ⟨_, rfl⟩, hW, hsame.mono (by decide) (by decide)⟩
      ·
        show Steps p.tables e below (T145.setTop (mkF m 202 #[.val (.long va_), .second, .val (.long vb_), .second, .val (.long vc_), .second, .val (.long ve_), .second, .val (.long vq), .second, .val (.int vctl), .val (.int (2 : Int32)), .val (.int (Int32.ofNat dn)), .val (.ref b3), .val (.ref b17), .val (.ref b43), .val (.int (Int32.ofNat (own_bs (own_g [y14_0, y16_1, (0 : Int64), (0 : Int64)] vq) 4 (if dn = 2 then 0 else dn) (if dn = 2 then 0 else 2)))), .unset] [(.int (2 : Int32)), (.int (Int32.ofNat dn))])) _
        refine XS.icmpNo X145.here hx rfl (hb hby at_202) rfl (tlt (hc157 : (Int32.ofNat dn) < (2 : Int32))).2.1 ?_
        show Steps p.tables e below (T145.setTop (mkF m 205 #[.val (.long va_), .second, .val (.long vb_), .second, .val (.long vc_), .second, .val (.long ve_), .second, .val (.long vq), .second, .val (.int vctl), .val (.int (2 : Int32)), .val (.int (Int32.ofNat dn)), .val (.ref b3), .val (.ref b17), .val (.ref b43), .val (.int (Int32.ofNat (own_bs (own_g [y14_0, y16_1, (0 : Int64), (0 : Int64)] vq) 4 (if dn = 2 then 0 else dn) (if dn = 2 then 0 else 2)))), .unset] [])) _
        refine XS.iload X145.here hx rfl (hb hby at_205) rfl ?_
        show Steps p.tables e below (T145.setTop (mkF m 207 #[.val (.long va_), .second, .val (.long vb_), .second, .val (.long vc_), .second, .val (.long ve_), .second, .val (.long vq), .second, .val (.int vctl), .val (.int (2 : Int32)), .val (.int (Int32.ofNat dn)), .val (.ref b3), .val (.ref b17), .val (.ref b43), .val (.int (Int32.ofNat (own_bs (own_g [y14_0, y16_1, (0 : Int64), (0 : Int64)] vq) 4 (if dn = 2 then 0 else dn) (if dn = 2 then 0 else 2)))), .unset] [(.int (Int32.ofNat dn))])) _
        refine XS.aload X145.here hx rfl (hb hby at_207) rfl rfl ?_
        show Steps p.tables e below (T145.setTop (mkF m 209 #[.val (.long va_), .second, .val (.long vb_), .second, .val (.long vc_), .second, .val (.long ve_), .second, .val (.long vq), .second, .val (.int vctl), .val (.int (2 : Int32)), .val (.int (Int32.ofNat dn)), .val (.ref b3), .val (.ref b17), .val (.ref b43), .val (.int (Int32.ofNat (own_bs (own_g [y14_0, y16_1, (0 : Int64), (0 : Int64)] vq) 4 (if dn = 2 then 0 else dn) (if dn = 2 then 0 else 2)))), .unset] [(.ref b3), (.int (Int32.ofNat dn))])) _
        refine XS.iconst X145.here hx rfl (hb hby at_209) ?_
        show Steps p.tables e below (T145.setTop (mkF m 210 #[.val (.long va_), .second, .val (.long vb_), .second, .val (.long vc_), .second, .val (.long ve_), .second, .val (.long vq), .second, .val (.int vctl), .val (.int (2 : Int32)), .val (.int (Int32.ofNat dn)), .val (.ref b3), .val (.ref b17), .val (.ref b43), .val (.int (Int32.ofNat (own_bs (own_g [y14_0, y16_1, (0 : Int64), (0 : Int64)] vq) 4 (if dn = 2 then 0 else dn) (if dn = 2 then 0 else 2)))), .unset] [(.int (0 : Int32)), (.ref b3), (.int (Int32.ofNat dn))])) _
        refine XS.iload X145.here hx rfl (hb hby at_210) rfl ?_
        show Steps p.tables e below (T145.setTop (mkF m 212 #[.val (.long va_), .second, .val (.long vb_), .second, .val (.long vc_), .second, .val (.long ve_), .second, .val (.long vq), .second, .val (.int vctl), .val (.int (2 : Int32)), .val (.int (Int32.ofNat dn)), .val (.ref b3), .val (.ref b17), .val (.ref b43), .val (.int (Int32.ofNat (own_bs (own_g [y14_0, y16_1, (0 : Int64), (0 : Int64)] vq) 4 (if dn = 2 then 0 else dn) (if dn = 2 then 0 else 2)))), .unset] [(.int (Int32.ofNat dn)), (.int (0 : Int32)), (.ref b3), (.int (Int32.ofNat dn))])) _
        refine XS.iload X145.here hx rfl (hb hby at_212) rfl ?_
        show Steps p.tables e below (T145.setTop (mkF m 214 #[.val (.long va_), .second, .val (.long vb_), .second, .val (.long vc_), .second, .val (.long ve_), .second, .val (.long vq), .second, .val (.int vctl), .val (.int (2 : Int32)), .val (.int (Int32.ofNat dn)), .val (.ref b3), .val (.ref b17), .val (.ref b43), .val (.int (Int32.ofNat (own_bs (own_g [y14_0, y16_1, (0 : Int64), (0 : Int64)] vq) 4 (if dn = 2 then 0 else dn) (if dn = 2 then 0 else 2)))), .unset] [(.int (2 : Int32)), (.int (Int32.ofNat dn)), (.int (0 : Int32)), (.ref b3), (.int (Int32.ofNat dn))])) _
        refine XS.lload X145.here hx rfl (hb hby at_214) rfl ?_
        show Steps p.tables e below (T145.setTop (mkF m 216 #[.val (.long va_), .second, .val (.long vb_), .second, .val (.long vc_), .second, .val (.long ve_), .second, .val (.long vq), .second, .val (.int vctl), .val (.int (2 : Int32)), .val (.int (Int32.ofNat dn)), .val (.ref b3), .val (.ref b17), .val (.ref b43), .val (.int (Int32.ofNat (own_bs (own_g [y14_0, y16_1, (0 : Int64), (0 : Int64)] vq) 4 (if dn = 2 then 0 else dn) (if dn = 2 then 0 else 2)))), .unset] [(.long vq), (.int (2 : Int32)), (.int (Int32.ofNat dn)), (.int (0 : Int32)), (.ref b3), (.int (Int32.ofNat dn))])) _
        refine st158 _ ?_
        show Steps p.tables e below (T158.setTop (mkF m 219 #[.val (.long va_), .second, .val (.long vb_), .second, .val (.long vc_), .second, .val (.long ve_), .second, .val (.long vq), .second, .val (.int vctl), .val (.int (2 : Int32)), .val (.int (Int32.ofNat dn)), .val (.ref b3), .val (.ref b17), .val (.ref b43), .val (.int (Int32.ofNat (own_bs (own_g [y14_0, y16_1, (0 : Int64), (0 : Int64)] vq) 4 (if dn = 2 then 0 else dn) (if dn = 2 then 0 else 2)))), .unset] [(.int (own_in0 b3 (Int32.ofNat dn) (2 : Int32) vq y14_0 y16_1 y16_2 y15_3)), (.int (Int32.ofNat dn))])) _
        refine XS.iadd X158.here hx rfl (hb hby at_219) rfl ?_
        show Steps p.tables e below (T158.setTop (mkF m 220 #[.val (.long va_), .second, .val (.long vb_), .second, .val (.long vc_), .second, .val (.long ve_), .second, .val (.long vq), .second, .val (.int vctl), .val (.int (2 : Int32)), .val (.int (Int32.ofNat dn)), .val (.ref b3), .val (.ref b17), .val (.ref b43), .val (.int (Int32.ofNat (own_bs (own_g [y14_0, y16_1, (0 : Int64), (0 : Int64)] vq) 4 (if dn = 2 then 0 else dn) (if dn = 2 then 0 else 2)))), .unset] [(.int ((Int32.ofNat dn) + (own_in0 b3 (Int32.ofNat dn) (2 : Int32) vq y14_0 y16_1 y16_2 y15_3)))])) _
        refine XS.aload X158.here hx rfl (hb hby at_220) rfl rfl ?_
        show Steps p.tables e below (T158.setTop (mkF m 222 #[.val (.long va_), .second, .val (.long vb_), .second, .val (.long vc_), .second, .val (.long ve_), .second, .val (.long vq), .second, .val (.int vctl), .val (.int (2 : Int32)), .val (.int (Int32.ofNat dn)), .val (.ref b3), .val (.ref b17), .val (.ref b43), .val (.int (Int32.ofNat (own_bs (own_g [y14_0, y16_1, (0 : Int64), (0 : Int64)] vq) 4 (if dn = 2 then 0 else dn) (if dn = 2 then 0 else 2)))), .unset] [(.ref b3), (.int ((Int32.ofNat dn) + (own_in0 b3 (Int32.ofNat dn) (2 : Int32) vq y14_0 y16_1 y16_2 y15_3)))])) _
        refine XS.iconst X158.here hx rfl (hb hby at_222) ?_
        show Steps p.tables e below (T158.setTop (mkF m 223 #[.val (.long va_), .second, .val (.long vb_), .second, .val (.long vc_), .second, .val (.long ve_), .second, .val (.long vq), .second, .val (.int vctl), .val (.int (2 : Int32)), .val (.int (Int32.ofNat dn)), .val (.ref b3), .val (.ref b17), .val (.ref b43), .val (.int (Int32.ofNat (own_bs (own_g [y14_0, y16_1, (0 : Int64), (0 : Int64)] vq) 4 (if dn = 2 then 0 else dn) (if dn = 2 then 0 else 2)))), .unset] [(.int (1 : Int32)), (.ref b3), (.int ((Int32.ofNat dn) + (own_in0 b3 (Int32.ofNat dn) (2 : Int32) vq y14_0 y16_1 y16_2 y15_3)))])) _
        refine XS.iload X158.here hx rfl (hb hby at_223) rfl ?_
        show Steps p.tables e below (T158.setTop (mkF m 225 #[.val (.long va_), .second, .val (.long vb_), .second, .val (.long vc_), .second, .val (.long ve_), .second, .val (.long vq), .second, .val (.int vctl), .val (.int (2 : Int32)), .val (.int (Int32.ofNat dn)), .val (.ref b3), .val (.ref b17), .val (.ref b43), .val (.int (Int32.ofNat (own_bs (own_g [y14_0, y16_1, (0 : Int64), (0 : Int64)] vq) 4 (if dn = 2 then 0 else dn) (if dn = 2 then 0 else 2)))), .unset] [(.int (Int32.ofNat dn)), (.int (1 : Int32)), (.ref b3), (.int ((Int32.ofNat dn) + (own_in0 b3 (Int32.ofNat dn) (2 : Int32) vq y14_0 y16_1 y16_2 y15_3)))])) _
        refine XS.iload X158.here hx rfl (hb hby at_225) rfl ?_
        show Steps p.tables e below (T158.setTop (mkF m 227 #[.val (.long va_), .second, .val (.long vb_), .second, .val (.long vc_), .second, .val (.long ve_), .second, .val (.long vq), .second, .val (.int vctl), .val (.int (2 : Int32)), .val (.int (Int32.ofNat dn)), .val (.ref b3), .val (.ref b17), .val (.ref b43), .val (.int (Int32.ofNat (own_bs (own_g [y14_0, y16_1, (0 : Int64), (0 : Int64)] vq) 4 (if dn = 2 then 0 else dn) (if dn = 2 then 0 else 2)))), .unset] [(.int (2 : Int32)), (.int (Int32.ofNat dn)), (.int (1 : Int32)), (.ref b3), (.int ((Int32.ofNat dn) + (own_in0 b3 (Int32.ofNat dn) (2 : Int32) vq y14_0 y16_1 y16_2 y15_3)))])) _
        refine XS.lload X158.here hx rfl (hb hby at_227) rfl ?_
        show Steps p.tables e below (T158.setTop (mkF m 229 #[.val (.long va_), .second, .val (.long vb_), .second, .val (.long vc_), .second, .val (.long ve_), .second, .val (.long vq), .second, .val (.int vctl), .val (.int (2 : Int32)), .val (.int (Int32.ofNat dn)), .val (.ref b3), .val (.ref b17), .val (.ref b43), .val (.int (Int32.ofNat (own_bs (own_g [y14_0, y16_1, (0 : Int64), (0 : Int64)] vq) 4 (if dn = 2 then 0 else dn) (if dn = 2 then 0 else 2)))), .unset] [(.long vq), (.int (2 : Int32)), (.int (Int32.ofNat dn)), (.int (1 : Int32)), (.ref b3), (.int ((Int32.ofNat dn) + (own_in0 b3 (Int32.ofNat dn) (2 : Int32) vq y14_0 y16_1 y16_2 y15_3)))])) _
        refine st159 _ ?_
        show Steps p.tables e below (T159.setTop (mkF m 232 #[.val (.long va_), .second, .val (.long vb_), .second, .val (.long vc_), .second, .val (.long ve_), .second, .val (.long vq), .second, .val (.int vctl), .val (.int (2 : Int32)), .val (.int (Int32.ofNat dn)), .val (.ref b3), .val (.ref b17), .val (.ref b43), .val (.int (Int32.ofNat (own_bs (own_g [y14_0, y16_1, (0 : Int64), (0 : Int64)] vq) 4 (if dn = 2 then 0 else dn) (if dn = 2 then 0 else 2)))), .unset] [(.int (own_in1 b3 (Int32.ofNat dn) (2 : Int32) vq y14_0 y16_1 y16_2 y15_3)), (.int ((Int32.ofNat dn) + (own_in0 b3 (Int32.ofNat dn) (2 : Int32) vq y14_0 y16_1 y16_2 y15_3)))])) _
        refine XS.iadd X159.here hx rfl (hb hby at_232) rfl ?_
        show Steps p.tables e below (T159.setTop (mkF m 233 #[.val (.long va_), .second, .val (.long vb_), .second, .val (.long vc_), .second, .val (.long ve_), .second, .val (.long vq), .second, .val (.int vctl), .val (.int (2 : Int32)), .val (.int (Int32.ofNat dn)), .val (.ref b3), .val (.ref b17), .val (.ref b43), .val (.int (Int32.ofNat (own_bs (own_g [y14_0, y16_1, (0 : Int64), (0 : Int64)] vq) 4 (if dn = 2 then 0 else dn) (if dn = 2 then 0 else 2)))), .unset] [(.int (((Int32.ofNat dn) + (own_in0 b3 (Int32.ofNat dn) (2 : Int32) vq y14_0 y16_1 y16_2 y15_3)) + (own_in1 b3 (Int32.ofNat dn) (2 : Int32) vq y14_0 y16_1 y16_2 y15_3)))])) _
        refine XS.aload X159.here hx rfl (hb hby at_233) rfl rfl ?_
        show Steps p.tables e below (T159.setTop (mkF m 235 #[.val (.long va_), .second, .val (.long vb_), .second, .val (.long vc_), .second, .val (.long ve_), .second, .val (.long vq), .second, .val (.int vctl), .val (.int (2 : Int32)), .val (.int (Int32.ofNat dn)), .val (.ref b3), .val (.ref b17), .val (.ref b43), .val (.int (Int32.ofNat (own_bs (own_g [y14_0, y16_1, (0 : Int64), (0 : Int64)] vq) 4 (if dn = 2 then 0 else dn) (if dn = 2 then 0 else 2)))), .unset] [(.ref b3), (.int (((Int32.ofNat dn) + (own_in0 b3 (Int32.ofNat dn) (2 : Int32) vq y14_0 y16_1 y16_2 y15_3)) + (own_in1 b3 (Int32.ofNat dn) (2 : Int32) vq y14_0 y16_1 y16_2 y15_3)))])) _
        refine XS.iconst X159.here hx rfl (hb hby at_235) ?_
        show Steps p.tables e below (T159.setTop (mkF m 236 #[.val (.long va_), .second, .val (.long vb_), .second, .val (.long vc_), .second, .val (.long ve_), .second, .val (.long vq), .second, .val (.int vctl), .val (.int (2 : Int32)), .val (.int (Int32.ofNat dn)), .val (.ref b3), .val (.ref b17), .val (.ref b43), .val (.int (Int32.ofNat (own_bs (own_g [y14_0, y16_1, (0 : Int64), (0 : Int64)] vq) 4 (if dn = 2 then 0 else dn) (if dn = 2 then 0 else 2)))), .unset] [(.int (2 : Int32)), (.ref b3), (.int (((Int32.ofNat dn) + (own_in0 b3 (Int32.ofNat dn) (2 : Int32) vq y14_0 y16_1 y16_2 y15_3)) + (own_in1 b3 (Int32.ofNat dn) (2 : Int32) vq y14_0 y16_1 y16_2 y15_3)))])) _
        refine XS.iload X159.here hx rfl (hb hby at_236) rfl ?_
        show Steps p.tables e below (T159.setTop (mkF m 238 #[.val (.long va_), .second, .val (.long vb_), .second, .val (.long vc_), .second, .val (.long ve_), .second, .val (.long vq), .second, .val (.int vctl), .val (.int (2 : Int32)), .val (.int (Int32.ofNat dn)), .val (.ref b3), .val (.ref b17), .val (.ref b43), .val (.int (Int32.ofNat (own_bs (own_g [y14_0, y16_1, (0 : Int64), (0 : Int64)] vq) 4 (if dn = 2 then 0 else dn) (if dn = 2 then 0 else 2)))), .unset] [(.int (Int32.ofNat dn)), (.int (2 : Int32)), (.ref b3), (.int (((Int32.ofNat dn) + (own_in0 b3 (Int32.ofNat dn) (2 : Int32) vq y14_0 y16_1 y16_2 y15_3)) + (own_in1 b3 (Int32.ofNat dn) (2 : Int32) vq y14_0 y16_1 y16_2 y15_3)))])) _
        refine XS.iload X159.here hx rfl (hb hby at_238) rfl ?_
        show Steps p.tables e below (T159.setTop (mkF m 240 #[.val (.long va_), .second, .val (.long vb_), .second, .val (.long vc_), .second, .val (.long ve_), .second, .val (.long vq), .second, .val (.int vctl), .val (.int (2 : Int32)), .val (.int (Int32.ofNat dn)), .val (.ref b3), .val (.ref b17), .val (.ref b43), .val (.int (Int32.ofNat (own_bs (own_g [y14_0, y16_1, (0 : Int64), (0 : Int64)] vq) 4 (if dn = 2 then 0 else dn) (if dn = 2 then 0 else 2)))), .unset] [(.int (2 : Int32)), (.int (Int32.ofNat dn)), (.int (2 : Int32)), (.ref b3), (.int (((Int32.ofNat dn) + (own_in0 b3 (Int32.ofNat dn) (2 : Int32) vq y14_0 y16_1 y16_2 y15_3)) + (own_in1 b3 (Int32.ofNat dn) (2 : Int32) vq y14_0 y16_1 y16_2 y15_3)))])) _
        refine XS.lload X159.here hx rfl (hb hby at_240) rfl ?_
        show Steps p.tables e below (T159.setTop (mkF m 242 #[.val (.long va_), .second, .val (.long vb_), .second, .val (.long vc_), .second, .val (.long ve_), .second, .val (.long vq), .second, .val (.int vctl), .val (.int (2 : Int32)), .val (.int (Int32.ofNat dn)), .val (.ref b3), .val (.ref b17), .val (.ref b43), .val (.int (Int32.ofNat (own_bs (own_g [y14_0, y16_1, (0 : Int64), (0 : Int64)] vq) 4 (if dn = 2 then 0 else dn) (if dn = 2 then 0 else 2)))), .unset] [(.long vq), (.int (2 : Int32)), (.int (Int32.ofNat dn)), (.int (2 : Int32)), (.ref b3), (.int (((Int32.ofNat dn) + (own_in0 b3 (Int32.ofNat dn) (2 : Int32) vq y14_0 y16_1 y16_2 y15_3)) + (own_in1 b3 (Int32.ofNat dn) (2 : Int32) vq y14_0 y16_1 y16_2 y15_3)))])) _
        refine st160 _ ?_
        show Steps p.tables e below (T160.setTop (mkF m 245 #[.val (.long va_), .second, .val (.long vb_), .second, .val (.long vc_), .second, .val (.long ve_), .second, .val (.long vq), .second, .val (.int vctl), .val (.int (2 : Int32)), .val (.int (Int32.ofNat dn)), .val (.ref b3), .val (.ref b17), .val (.ref b43), .val (.int (Int32.ofNat (own_bs (own_g [y14_0, y16_1, (0 : Int64), (0 : Int64)] vq) 4 (if dn = 2 then 0 else dn) (if dn = 2 then 0 else 2)))), .unset] [(.int (own_in2 b3 (Int32.ofNat dn) (2 : Int32) vq y14_0 y16_1 y16_2 y15_3)), (.int (((Int32.ofNat dn) + (own_in0 b3 (Int32.ofNat dn) (2 : Int32) vq y14_0 y16_1 y16_2 y15_3)) + (own_in1 b3 (Int32.ofNat dn) (2 : Int32) vq y14_0 y16_1 y16_2 y15_3)))])) _
        refine XS.iadd X160.here hx rfl (hb hby at_245) rfl ?_
        show Steps p.tables e below (T160.setTop (mkF m 246 #[.val (.long va_), .second, .val (.long vb_), .second, .val (.long vc_), .second, .val (.long ve_), .second, .val (.long vq), .second, .val (.int vctl), .val (.int (2 : Int32)), .val (.int (Int32.ofNat dn)), .val (.ref b3), .val (.ref b17), .val (.ref b43), .val (.int (Int32.ofNat (own_bs (own_g [y14_0, y16_1, (0 : Int64), (0 : Int64)] vq) 4 (if dn = 2 then 0 else dn) (if dn = 2 then 0 else 2)))), .unset] [(.int ((((Int32.ofNat dn) + (own_in0 b3 (Int32.ofNat dn) (2 : Int32) vq y14_0 y16_1 y16_2 y15_3)) + (own_in1 b3 (Int32.ofNat dn) (2 : Int32) vq y14_0 y16_1 y16_2 y15_3)) + (own_in2 b3 (Int32.ofNat dn) (2 : Int32) vq y14_0 y16_1 y16_2 y15_3)))])) _
        refine XS.aload X160.here hx rfl (hb hby at_246) rfl rfl ?_
        show Steps p.tables e below (T160.setTop (mkF m 248 #[.val (.long va_), .second, .val (.long vb_), .second, .val (.long vc_), .second, .val (.long ve_), .second, .val (.long vq), .second, .val (.int vctl), .val (.int (2 : Int32)), .val (.int (Int32.ofNat dn)), .val (.ref b3), .val (.ref b17), .val (.ref b43), .val (.int (Int32.ofNat (own_bs (own_g [y14_0, y16_1, (0 : Int64), (0 : Int64)] vq) 4 (if dn = 2 then 0 else dn) (if dn = 2 then 0 else 2)))), .unset] [(.ref b3), (.int ((((Int32.ofNat dn) + (own_in0 b3 (Int32.ofNat dn) (2 : Int32) vq y14_0 y16_1 y16_2 y15_3)) + (own_in1 b3 (Int32.ofNat dn) (2 : Int32) vq y14_0 y16_1 y16_2 y15_3)) + (own_in2 b3 (Int32.ofNat dn) (2 : Int32) vq y14_0 y16_1 y16_2 y15_3)))])) _
        refine XS.iconst X160.here hx rfl (hb hby at_248) ?_
        show Steps p.tables e below (T160.setTop (mkF m 249 #[.val (.long va_), .second, .val (.long vb_), .second, .val (.long vc_), .second, .val (.long ve_), .second, .val (.long vq), .second, .val (.int vctl), .val (.int (2 : Int32)), .val (.int (Int32.ofNat dn)), .val (.ref b3), .val (.ref b17), .val (.ref b43), .val (.int (Int32.ofNat (own_bs (own_g [y14_0, y16_1, (0 : Int64), (0 : Int64)] vq) 4 (if dn = 2 then 0 else dn) (if dn = 2 then 0 else 2)))), .unset] [(.int (3 : Int32)), (.ref b3), (.int ((((Int32.ofNat dn) + (own_in0 b3 (Int32.ofNat dn) (2 : Int32) vq y14_0 y16_1 y16_2 y15_3)) + (own_in1 b3 (Int32.ofNat dn) (2 : Int32) vq y14_0 y16_1 y16_2 y15_3)) + (own_in2 b3 (Int32.ofNat dn) (2 : Int32) vq y14_0 y16_1 y16_2 y15_3)))])) _
        refine XS.iload X160.here hx rfl (hb hby at_249) rfl ?_
        show Steps p.tables e below (T160.setTop (mkF m 251 #[.val (.long va_), .second, .val (.long vb_), .second, .val (.long vc_), .second, .val (.long ve_), .second, .val (.long vq), .second, .val (.int vctl), .val (.int (2 : Int32)), .val (.int (Int32.ofNat dn)), .val (.ref b3), .val (.ref b17), .val (.ref b43), .val (.int (Int32.ofNat (own_bs (own_g [y14_0, y16_1, (0 : Int64), (0 : Int64)] vq) 4 (if dn = 2 then 0 else dn) (if dn = 2 then 0 else 2)))), .unset] [(.int (Int32.ofNat dn)), (.int (3 : Int32)), (.ref b3), (.int ((((Int32.ofNat dn) + (own_in0 b3 (Int32.ofNat dn) (2 : Int32) vq y14_0 y16_1 y16_2 y15_3)) + (own_in1 b3 (Int32.ofNat dn) (2 : Int32) vq y14_0 y16_1 y16_2 y15_3)) + (own_in2 b3 (Int32.ofNat dn) (2 : Int32) vq y14_0 y16_1 y16_2 y15_3)))])) _
        refine XS.iload X160.here hx rfl (hb hby at_251) rfl ?_
        show Steps p.tables e below (T160.setTop (mkF m 253 #[.val (.long va_), .second, .val (.long vb_), .second, .val (.long vc_), .second, .val (.long ve_), .second, .val (.long vq), .second, .val (.int vctl), .val (.int (2 : Int32)), .val (.int (Int32.ofNat dn)), .val (.ref b3), .val (.ref b17), .val (.ref b43), .val (.int (Int32.ofNat (own_bs (own_g [y14_0, y16_1, (0 : Int64), (0 : Int64)] vq) 4 (if dn = 2 then 0 else dn) (if dn = 2 then 0 else 2)))), .unset] [(.int (2 : Int32)), (.int (Int32.ofNat dn)), (.int (3 : Int32)), (.ref b3), (.int ((((Int32.ofNat dn) + (own_in0 b3 (Int32.ofNat dn) (2 : Int32) vq y14_0 y16_1 y16_2 y15_3)) + (own_in1 b3 (Int32.ofNat dn) (2 : Int32) vq y14_0 y16_1 y16_2 y15_3)) + (own_in2 b3 (Int32.ofNat dn) (2 : Int32) vq y14_0 y16_1 y16_2 y15_3)))])) _
        refine XS.lload X160.here hx rfl (hb hby at_253) rfl ?_
        show Steps p.tables e below (T160.setTop (mkF m 255 #[.val (.long va_), .second, .val (.long vb_), .second, .val (.long vc_), .second, .val (.long ve_), .second, .val (.long vq), .second, .val (.int vctl), .val (.int (2 : Int32)), .val (.int (Int32.ofNat dn)), .val (.ref b3), .val (.ref b17), .val (.ref b43), .val (.int (Int32.ofNat (own_bs (own_g [y14_0, y16_1, (0 : Int64), (0 : Int64)] vq) 4 (if dn = 2 then 0 else dn) (if dn = 2 then 0 else 2)))), .unset] [(.long vq), (.int (2 : Int32)), (.int (Int32.ofNat dn)), (.int (3 : Int32)), (.ref b3), (.int ((((Int32.ofNat dn) + (own_in0 b3 (Int32.ofNat dn) (2 : Int32) vq y14_0 y16_1 y16_2 y15_3)) + (own_in1 b3 (Int32.ofNat dn) (2 : Int32) vq y14_0 y16_1 y16_2 y15_3)) + (own_in2 b3 (Int32.ofNat dn) (2 : Int32) vq y14_0 y16_1 y16_2 y15_3)))])) _
        refine st161 _ ?_
        show Steps p.tables e below (T161.setTop (mkF m 258 #[.val (.long va_), .second, .val (.long vb_), .second, .val (.long vc_), .second, .val (.long ve_), .second, .val (.long vq), .second, .val (.int vctl), .val (.int (2 : Int32)), .val (.int (Int32.ofNat dn)), .val (.ref b3), .val (.ref b17), .val (.ref b43), .val (.int (Int32.ofNat (own_bs (own_g [y14_0, y16_1, (0 : Int64), (0 : Int64)] vq) 4 (if dn = 2 then 0 else dn) (if dn = 2 then 0 else 2)))), .unset] [(.int (own_in3 b3 (Int32.ofNat dn) (2 : Int32) vq y14_0 y16_1 y16_2 y15_3)), (.int ((((Int32.ofNat dn) + (own_in0 b3 (Int32.ofNat dn) (2 : Int32) vq y14_0 y16_1 y16_2 y15_3)) + (own_in1 b3 (Int32.ofNat dn) (2 : Int32) vq y14_0 y16_1 y16_2 y15_3)) + (own_in2 b3 (Int32.ofNat dn) (2 : Int32) vq y14_0 y16_1 y16_2 y15_3)))])) _
        refine XS.iadd X161.here hx rfl (hb hby at_258) rfl ?_
        show Steps p.tables e below (T161.setTop (mkF m 259 #[.val (.long va_), .second, .val (.long vb_), .second, .val (.long vc_), .second, .val (.long ve_), .second, .val (.long vq), .second, .val (.int vctl), .val (.int (2 : Int32)), .val (.int (Int32.ofNat dn)), .val (.ref b3), .val (.ref b17), .val (.ref b43), .val (.int (Int32.ofNat (own_bs (own_g [y14_0, y16_1, (0 : Int64), (0 : Int64)] vq) 4 (if dn = 2 then 0 else dn) (if dn = 2 then 0 else 2)))), .unset] [(.int (((((Int32.ofNat dn) + (own_in0 b3 (Int32.ofNat dn) (2 : Int32) vq y14_0 y16_1 y16_2 y15_3)) + (own_in1 b3 (Int32.ofNat dn) (2 : Int32) vq y14_0 y16_1 y16_2 y15_3)) + (own_in2 b3 (Int32.ofNat dn) (2 : Int32) vq y14_0 y16_1 y16_2 y15_3)) + (own_in3 b3 (Int32.ofNat dn) (2 : Int32) vq y14_0 y16_1 y16_2 y15_3)))])) _
        refine XS.goto X161.here hx rfl (pc0 := 259) (pc' := 263) rfl (hb hby at_259) (by decide) (by decide) ?_
        show Steps p.tables e below (T161.setTop (mkF m 263 #[.val (.long va_), .second, .val (.long vb_), .second, .val (.long vc_), .second, .val (.long ve_), .second, .val (.long vq), .second, .val (.int vctl), .val (.int (2 : Int32)), .val (.int (Int32.ofNat dn)), .val (.ref b3), .val (.ref b17), .val (.ref b43), .val (.int (Int32.ofNat (own_bs (own_g [y14_0, y16_1, (0 : Int64), (0 : Int64)] vq) 4 (if dn = 2 then 0 else dn) (if dn = 2 then 0 else 2)))), .unset] [(.int (((((Int32.ofNat dn) + (own_in0 b3 (Int32.ofNat dn) (2 : Int32) vq y14_0 y16_1 y16_2 y15_3)) + (own_in1 b3 (Int32.ofNat dn) (2 : Int32) vq y14_0 y16_1 y16_2 y15_3)) + (own_in2 b3 (Int32.ofNat dn) (2 : Int32) vq y14_0 y16_1 y16_2 y15_3)) + (own_in3 b3 (Int32.ofNat dn) (2 : Int32) vq y14_0 y16_1 y16_2 y15_3)))])) _
        refine XS.istore X161.here hx rfl (hb hby at_263) rfl (l' := #[.val (.long va_), .second, .val (.long vb_), .second, .val (.long vc_), .second, .val (.long ve_), .second, .val (.long vq), .second, .val (.int vctl), .val (.int (2 : Int32)), .val (.int (Int32.ofNat dn)), .val (.ref b3), .val (.ref b17), .val (.ref b43), .val (.int (Int32.ofNat (own_bs (own_g [y14_0, y16_1, (0 : Int64), (0 : Int64)] vq) 4 (if dn = 2 then 0 else dn) (if dn = 2 then 0 else 2)))), .val (.int (((((Int32.ofNat dn) + (own_in0 b3 (Int32.ofNat dn) (2 : Int32) vq y14_0 y16_1 y16_2 y15_3)) + (own_in1 b3 (Int32.ofNat dn) (2 : Int32) vq y14_0 y16_1 y16_2 y15_3)) + (own_in2 b3 (Int32.ofNat dn) (2 : Int32) vq y14_0 y16_1 y16_2 y15_3)) + (own_in3 b3 (Int32.ofNat dn) (2 : Int32) vq y14_0 y16_1 y16_2 y15_3)))]) rfl ?_
        show Steps p.tables e below (T161.setTop (mkF m 265 #[.val (.long va_), .second, .val (.long vb_), .second, .val (.long vc_), .second, .val (.long ve_), .second, .val (.long vq), .second, .val (.int vctl), .val (.int (2 : Int32)), .val (.int (Int32.ofNat dn)), .val (.ref b3), .val (.ref b17), .val (.ref b43), .val (.int (Int32.ofNat (own_bs (own_g [y14_0, y16_1, (0 : Int64), (0 : Int64)] vq) 4 (if dn = 2 then 0 else dn) (if dn = 2 then 0 else 2)))), .val (.int (((((Int32.ofNat dn) + (own_in0 b3 (Int32.ofNat dn) (2 : Int32) vq y14_0 y16_1 y16_2 y15_3)) + (own_in1 b3 (Int32.ofNat dn) (2 : Int32) vq y14_0 y16_1 y16_2 y15_3)) + (own_in2 b3 (Int32.ofNat dn) (2 : Int32) vq y14_0 y16_1 y16_2 y15_3)) + (own_in3 b3 (Int32.ofNat dn) (2 : Int32) vq y14_0 y16_1 y16_2 y15_3)))] [])) _
        refine XS.iload X161.here hx rfl (hb hby at_265) rfl ?_
        show Steps p.tables e below (T161.setTop (mkF m 267 #[.val (.long va_), .second, .val (.long vb_), .second, .val (.long vc_), .second, .val (.long ve_), .second, .val (.long vq), .second, .val (.int vctl), .val (.int (2 : Int32)), .val (.int (Int32.ofNat dn)), .val (.ref b3), .val (.ref b17), .val (.ref b43), .val (.int (Int32.ofNat (own_bs (own_g [y14_0, y16_1, (0 : Int64), (0 : Int64)] vq) 4 (if dn = 2 then 0 else dn) (if dn = 2 then 0 else 2)))), .val (.int (((((Int32.ofNat dn) + (own_in0 b3 (Int32.ofNat dn) (2 : Int32) vq y14_0 y16_1 y16_2 y15_3)) + (own_in1 b3 (Int32.ofNat dn) (2 : Int32) vq y14_0 y16_1 y16_2 y15_3)) + (own_in2 b3 (Int32.ofNat dn) (2 : Int32) vq y14_0 y16_1 y16_2 y15_3)) + (own_in3 b3 (Int32.ofNat dn) (2 : Int32) vq y14_0 y16_1 y16_2 y15_3)))] [(.int (Int32.ofNat (own_bs (own_g [y14_0, y16_1, (0 : Int64), (0 : Int64)] vq) 4 (if dn = 2 then 0 else dn) (if dn = 2 then 0 else 2))))])) _
        refine XS.iload X161.here hx rfl (hb hby at_267) rfl ?_
        show Steps p.tables e below (T161.setTop (mkF m 269 #[.val (.long va_), .second, .val (.long vb_), .second, .val (.long vc_), .second, .val (.long ve_), .second, .val (.long vq), .second, .val (.int vctl), .val (.int (2 : Int32)), .val (.int (Int32.ofNat dn)), .val (.ref b3), .val (.ref b17), .val (.ref b43), .val (.int (Int32.ofNat (own_bs (own_g [y14_0, y16_1, (0 : Int64), (0 : Int64)] vq) 4 (if dn = 2 then 0 else dn) (if dn = 2 then 0 else 2)))), .val (.int (((((Int32.ofNat dn) + (own_in0 b3 (Int32.ofNat dn) (2 : Int32) vq y14_0 y16_1 y16_2 y15_3)) + (own_in1 b3 (Int32.ofNat dn) (2 : Int32) vq y14_0 y16_1 y16_2 y15_3)) + (own_in2 b3 (Int32.ofNat dn) (2 : Int32) vq y14_0 y16_1 y16_2 y15_3)) + (own_in3 b3 (Int32.ofNat dn) (2 : Int32) vq y14_0 y16_1 y16_2 y15_3)))] [(.int (((((Int32.ofNat dn) + (own_in0 b3 (Int32.ofNat dn) (2 : Int32) vq y14_0 y16_1 y16_2 y15_3)) + (own_in1 b3 (Int32.ofNat dn) (2 : Int32) vq y14_0 y16_1 y16_2 y15_3)) + (own_in2 b3 (Int32.ofNat dn) (2 : Int32) vq y14_0 y16_1 y16_2 y15_3)) + (own_in3 b3 (Int32.ofNat dn) (2 : Int32) vq y14_0 y16_1 y16_2 y15_3))), (.int (Int32.ofNat (own_bs (own_g [y14_0, y16_1, (0 : Int64), (0 : Int64)] vq) 4 (if dn = 2 then 0 else dn) (if dn = 2 then 0 else 2))))])) _
        refine XS.icmpNo X161.here hx rfl (hb hby at_269) rfl (teq ((own_fin2t dn hdn hc157 s01 s12 s23) : (Int32.ofNat (own_bs (own_g [y14_0, y16_1, (0 : Int64), (0 : Int64)] vq) 4 (if dn = 2 then 0 else dn) (if dn = 2 then 0 else 2))) = (((((Int32.ofNat dn) + (own_in0 b3 (Int32.ofNat dn) (2 : Int32) vq y14_0 y16_1 y16_2 y15_3)) + (own_in1 b3 (Int32.ofNat dn) (2 : Int32) vq y14_0 y16_1 y16_2 y15_3)) + (own_in2 b3 (Int32.ofNat dn) (2 : Int32) vq y14_0 y16_1 y16_2 y15_3)) + (own_in3 b3 (Int32.ofNat dn) (2 : Int32) vq y14_0 y16_1 y16_2 y15_3)))).2 ?_
        show Steps p.tables e below (T161.setTop (mkF m 272 #[.val (.long va_), .second, .val (.long vb_), .second, .val (.long vc_), .second, .val (.long ve_), .second, .val (.long vq), .second, .val (.int vctl), .val (.int (2 : Int32)), .val (.int (Int32.ofNat dn)), .val (.ref b3), .val (.ref b17), .val (.ref b43), .val (.int (Int32.ofNat (own_bs (own_g [y14_0, y16_1, (0 : Int64), (0 : Int64)] vq) 4 (if dn = 2 then 0 else dn) (if dn = 2 then 0 else 2)))), .val (.int (((((Int32.ofNat dn) + (own_in0 b3 (Int32.ofNat dn) (2 : Int32) vq y14_0 y16_1 y16_2 y15_3)) + (own_in1 b3 (Int32.ofNat dn) (2 : Int32) vq y14_0 y16_1 y16_2 y15_3)) + (own_in2 b3 (Int32.ofNat dn) (2 : Int32) vq y14_0 y16_1 y16_2 y15_3)) + (own_in3 b3 (Int32.ofNat dn) (2 : Int32) vq y14_0 y16_1 y16_2 y15_3)))] [])) _
        refine XS.iconst X161.here hx rfl (hb hby at_272) ?_
        show Steps p.tables e below (T161.setTop (mkF m 273 #[.val (.long va_), .second, .val (.long vb_), .second, .val (.long vc_), .second, .val (.long ve_), .second, .val (.long vq), .second, .val (.int vctl), .val (.int (2 : Int32)), .val (.int (Int32.ofNat dn)), .val (.ref b3), .val (.ref b17), .val (.ref b43), .val (.int (Int32.ofNat (own_bs (own_g [y14_0, y16_1, (0 : Int64), (0 : Int64)] vq) 4 (if dn = 2 then 0 else dn) (if dn = 2 then 0 else 2)))), .val (.int (((((Int32.ofNat dn) + (own_in0 b3 (Int32.ofNat dn) (2 : Int32) vq y14_0 y16_1 y16_2 y15_3)) + (own_in1 b3 (Int32.ofNat dn) (2 : Int32) vq y14_0 y16_1 y16_2 y15_3)) + (own_in2 b3 (Int32.ofNat dn) (2 : Int32) vq y14_0 y16_1 y16_2 y15_3)) + (own_in3 b3 (Int32.ofNat dn) (2 : Int32) vq y14_0 y16_1 y16_2 y15_3)))] [(.int (1 : Int32))])) _
        refine XS.goto X161.here hx rfl (pc0 := 273) (pc' := 277) rfl (hb hby at_273) (by decide) (by decide) ?_
        show Steps p.tables e below (T161.setTop (mkF m 277 #[.val (.long va_), .second, .val (.long vb_), .second, .val (.long vc_), .second, .val (.long ve_), .second, .val (.long vq), .second, .val (.int vctl), .val (.int (2 : Int32)), .val (.int (Int32.ofNat dn)), .val (.ref b3), .val (.ref b17), .val (.ref b43), .val (.int (Int32.ofNat (own_bs (own_g [y14_0, y16_1, (0 : Int64), (0 : Int64)] vq) 4 (if dn = 2 then 0 else dn) (if dn = 2 then 0 else 2)))), .val (.int (((((Int32.ofNat dn) + (own_in0 b3 (Int32.ofNat dn) (2 : Int32) vq y14_0 y16_1 y16_2 y15_3)) + (own_in1 b3 (Int32.ofNat dn) (2 : Int32) vq y14_0 y16_1 y16_2 y15_3)) + (own_in2 b3 (Int32.ofNat dn) (2 : Int32) vq y14_0 y16_1 y16_2 y15_3)) + (own_in3 b3 (Int32.ofNat dn) (2 : Int32) vq y14_0 y16_1 y16_2 y15_3)))] [(.int (1 : Int32))])) _
        exact retN X161 hx (t := .boolean) Bd.returns (by simp) (hb hby at_277) hr
      ·
        show Q0 Z va_ vb_ vc_ ve_ vq vctl vN kN h0 n0 _ T161.heap _
        rw [e161q]
        exact ⟨rfl, N161⟩
    ·
      obtain ⟨fs, hr, hrun, hended, hW, hsame⟩ := X145.leave (v := some (.int (1 : Int32))) (fun h => by rw [Bd.returns] at h; cases h) (hlocks := BodyLoose.notSynchronized Bd)
      refine ⟨_, _, pre156 _ ?_, hrun, hended, _, _, rfl, ?_, ⟨_, rfl⟩, hW, hsame.mono (by decide) (by decide)⟩
      ·
        show Steps p.tables e below (T145.setTop (mkF m 202 #[.val (.long va_), .second, .val (.long vb_), .second, .val (.long vc_), .second, .val (.long ve_), .second, .val (.long vq), .second, .val (.int vctl), .val (.int (2 : Int32)), .val (.int (Int32.ofNat dn)), .val (.ref b3), .val (.ref b17), .val (.ref b43), .val (.int (Int32.ofNat (own_bs (own_g [y14_0, y16_1, (0 : Int64), (0 : Int64)] vq) 4 (if dn = 2 then 0 else dn) (if dn = 2 then 0 else 2)))), .unset] [(.int (2 : Int32)), (.int (Int32.ofNat dn))])) _
        refine XS.icmpYes X145.here hx rfl (pc0 := 202) (pc' := 262) rfl (hb hby at_202) rfl (flt (hc157 : ¬ ((Int32.ofNat dn) < (2 : Int32)))).2.1 (by decide) (by decide) ?_
        show Steps p.tables e below (T145.setTop (mkF m 262 #[.val (.long va_), .second, .val (.long vb_), .second, .val (.long vc_), .second, .val (.long ve_), .second, .val (.long vq), .second, .val (.int vctl), .val (.int (2 : Int32)), .val (.int (Int32.ofNat dn)), .val (.ref b3), .val (.ref b17), .val (.ref b43), .val (.int (Int32.ofNat (own_bs (own_g [y14_0, y16_1, (0 : Int64), (0 : Int64)] vq) 4 (if dn = 2 then 0 else dn) (if dn = 2 then 0 else 2)))), .unset] [])) _
        refine XS.iconst X145.here hx rfl (hb hby at_262) ?_
        show Steps p.tables e below (T145.setTop (mkF m 263 #[.val (.long va_), .second, .val (.long vb_), .second, .val (.long vc_), .second, .val (.long ve_), .second, .val (.long vq), .second, .val (.int vctl), .val (.int (2 : Int32)), .val (.int (Int32.ofNat dn)), .val (.ref b3), .val (.ref b17), .val (.ref b43), .val (.int (Int32.ofNat (own_bs (own_g [y14_0, y16_1, (0 : Int64), (0 : Int64)] vq) 4 (if dn = 2 then 0 else dn) (if dn = 2 then 0 else 2)))), .unset] [(.int (0 : Int32))])) _
        refine XS.istore X145.here hx rfl (hb hby at_263) rfl (l' := #[.val (.long va_), .second, .val (.long vb_), .second, .val (.long vc_), .second, .val (.long ve_), .second, .val (.long vq), .second, .val (.int vctl), .val (.int (2 : Int32)), .val (.int (Int32.ofNat dn)), .val (.ref b3), .val (.ref b17), .val (.ref b43), .val (.int (Int32.ofNat (own_bs (own_g [y14_0, y16_1, (0 : Int64), (0 : Int64)] vq) 4 (if dn = 2 then 0 else dn) (if dn = 2 then 0 else 2)))), .val (.int (0 : Int32))]) rfl ?_
        show Steps p.tables e below (T145.setTop (mkF m 265 #[.val (.long va_), .second, .val (.long vb_), .second, .val (.long vc_), .second, .val (.long ve_), .second, .val (.long vq), .second, .val (.int vctl), .val (.int (2 : Int32)), .val (.int (Int32.ofNat dn)), .val (.ref b3), .val (.ref b17), .val (.ref b43), .val (.int (Int32.ofNat (own_bs (own_g [y14_0, y16_1, (0 : Int64), (0 : Int64)] vq) 4 (if dn = 2 then 0 else dn) (if dn = 2 then 0 else 2)))), .val (.int (0 : Int32))] [])) _
        refine XS.iload X145.here hx rfl (hb hby at_265) rfl ?_
        show Steps p.tables e below (T145.setTop (mkF m 267 #[.val (.long va_), .second, .val (.long vb_), .second, .val (.long vc_), .second, .val (.long ve_), .second, .val (.long vq), .second, .val (.int vctl), .val (.int (2 : Int32)), .val (.int (Int32.ofNat dn)), .val (.ref b3), .val (.ref b17), .val (.ref b43), .val (.int (Int32.ofNat (own_bs (own_g [y14_0, y16_1, (0 : Int64), (0 : Int64)] vq) 4 (if dn = 2 then 0 else dn) (if dn = 2 then 0 else 2)))), .val (.int (0 : Int32))] [(.int (Int32.ofNat (own_bs (own_g [y14_0, y16_1, (0 : Int64), (0 : Int64)] vq) 4 (if dn = 2 then 0 else dn) (if dn = 2 then 0 else 2))))])) _
        refine XS.iload X145.here hx rfl (hb hby at_267) rfl ?_
        show Steps p.tables e below (T145.setTop (mkF m 269 #[.val (.long va_), .second, .val (.long vb_), .second, .val (.long vc_), .second, .val (.long ve_), .second, .val (.long vq), .second, .val (.int vctl), .val (.int (2 : Int32)), .val (.int (Int32.ofNat dn)), .val (.ref b3), .val (.ref b17), .val (.ref b43), .val (.int (Int32.ofNat (own_bs (own_g [y14_0, y16_1, (0 : Int64), (0 : Int64)] vq) 4 (if dn = 2 then 0 else dn) (if dn = 2 then 0 else 2)))), .val (.int (0 : Int32))] [(.int (0 : Int32)), (.int (Int32.ofNat (own_bs (own_g [y14_0, y16_1, (0 : Int64), (0 : Int64)] vq) 4 (if dn = 2 then 0 else dn) (if dn = 2 then 0 else 2))))])) _
        refine XS.icmpNo X145.here hx rfl (hb hby at_269) rfl (teq ((own_fin2f dn hdn hc157 s01 s12 s23) : (Int32.ofNat (own_bs (own_g [y14_0, y16_1, (0 : Int64), (0 : Int64)] vq) 4 (if dn = 2 then 0 else dn) (if dn = 2 then 0 else 2))) = (0 : Int32))).2 ?_
        show Steps p.tables e below (T145.setTop (mkF m 272 #[.val (.long va_), .second, .val (.long vb_), .second, .val (.long vc_), .second, .val (.long ve_), .second, .val (.long vq), .second, .val (.int vctl), .val (.int (2 : Int32)), .val (.int (Int32.ofNat dn)), .val (.ref b3), .val (.ref b17), .val (.ref b43), .val (.int (Int32.ofNat (own_bs (own_g [y14_0, y16_1, (0 : Int64), (0 : Int64)] vq) 4 (if dn = 2 then 0 else dn) (if dn = 2 then 0 else 2)))), .val (.int (0 : Int32))] [])) _
        refine XS.iconst X145.here hx rfl (hb hby at_272) ?_
        show Steps p.tables e below (T145.setTop (mkF m 273 #[.val (.long va_), .second, .val (.long vb_), .second, .val (.long vc_), .second, .val (.long ve_), .second, .val (.long vq), .second, .val (.int vctl), .val (.int (2 : Int32)), .val (.int (Int32.ofNat dn)), .val (.ref b3), .val (.ref b17), .val (.ref b43), .val (.int (Int32.ofNat (own_bs (own_g [y14_0, y16_1, (0 : Int64), (0 : Int64)] vq) 4 (if dn = 2 then 0 else dn) (if dn = 2 then 0 else 2)))), .val (.int (0 : Int32))] [(.int (1 : Int32))])) _
        refine XS.goto X145.here hx rfl (pc0 := 273) (pc' := 277) rfl (hb hby at_273) (by decide) (by decide) ?_
        show Steps p.tables e below (T145.setTop (mkF m 277 #[.val (.long va_), .second, .val (.long vb_), .second, .val (.long vc_), .second, .val (.long ve_), .second, .val (.long vq), .second, .val (.int vctl), .val (.int (2 : Int32)), .val (.int (Int32.ofNat dn)), .val (.ref b3), .val (.ref b17), .val (.ref b43), .val (.int (Int32.ofNat (own_bs (own_g [y14_0, y16_1, (0 : Int64), (0 : Int64)] vq) 4 (if dn = 2 then 0 else dn) (if dn = 2 then 0 else 2)))), .val (.int (0 : Int32))] [(.int (1 : Int32))])) _
        exact retN X145 hx (t := .boolean) Bd.returns (by simp) (hb hby at_277) hr
      ·
        show Q0 Z va_ vb_ vc_ ve_ vq vctl vN kN h0 n0 _ T145.heap _
        exact ⟨rfl, N145⟩
  ·
    obtain ⟨dn, hdn, rfl⟩ := own_dn3 hdd
    obtain ⟨cl162, Ar162, q162, S162, NN162, HH162, GG162⟩ := id c55
    have hin162 : ¬ ((0 : Int32) < 0 ∨ cl162.slots.size ≤ ((0 : Int32)).toNatClampNeg) := inb_of S162 ⟨by decide, by decide⟩
    have hat162 : cl162.slots[((0 : Int32)).toNatClampNeg]? = some (.long y14_0) := HH162.at hin162 rfl
    obtain ⟨cq163, kq163, q163a, q163b, q163c⟩ := isOf hZ rfl c57
    obtain ⟨_, _, ⟨T163, L163, k163, n163⟩, -, X163, ⟨Lc163, hQ163, l163, y163, z163⟩, st163⟩ := X54.virtualBack hx (y := (⟨"com/example/causeline/causeline/core/Filing", "add", "(JLcom/example/causeline/causeline/core/Waiting;)V"⟩ : MethodName)) (z := (⟨"com/example/causeline/causeline/core/Filing", "add", "(JLcom/example/causeline/causeline/core/Waiting;)V"⟩ : MethodName)) hown (mvT hZ (hw _ (List.mem_of_getElem? (i := 61) rfl))) (mvT hZ (hw _ (List.mem_of_getElem? (i := 62) rfl))) (notFace_of_selects (args := #[]) (mvT hZ (hw _ (List.mem_of_getElem? (i := 64) rfl)))) (mvT hZ (hw _ (List.mem_of_getElem? (i := 64) rfl))) (mvT hZ (hw _ (List.mem_of_getElem? (i := 63) rfl))) (by decide) (backOf (W := 0) (rmAdd0 l Z a0 hw [] b17 y14_0 b43 vN kN (7 : Int64) T54.heap n0 Z54 c57 c58 c59 c60 c61 (VN.keep K54 nin0) f54_0 g_b17 (Ne.symm (Nat.ne_of_lt (Nat.lt_of_lt_of_le VN.lt sz_b17))) ne46) hZ (hw _ (List.mem_of_getElem? (i := 65) rfl)) (hw _ (List.mem_of_getElem? (i := 7) rfl)) (by decide) (by decide)) q163a q163c (g := (mkF m 127 #[.val (.long va_), .second, .val (.long vb_), .second, .val (.long vc_), .second, .val (.long ve_), .second, .val (.long vq), .second, .val (.int vctl), .val (.int (3 : Int32)), .val (.int (Int32.ofNat dn)), .val (.ref b3), .val (.ref b17), .val (.ref b43), .unset, .unset] [(.ref b43), (.long y14_0), (.ref b17)])) rfl (by rw [hml]; rfl) (Steps.refl _) (argsL := [(.long y14_0), (.ref b43)]) (rest := []) (lenOf pd_8 rfl) rfl (by show 2 * 0 + _ ≤ _; exact Nat.le_of_eq rfl) (hb hby at_127) (fun _ _ => ⟨rfl, rfl, (by decide : 6 + 2 ≤ _), (by decide : 33 + 8 ≤ _)⟩)
    dsimp only [Pt.U, Pt.locs, Pt.cells, Pt.slots] at X163 l163 y163 z163 st163 hQ163
    obtain rfl : k163 = 8 := y163; obtain rfl : n163 = 41 := z163
    obtain ⟨rfl, N163q, K163q, ⟨vn163, kn163, vo163, ko163, szn163, szo163, gn163, go163, nno163, fa163_0, fa163_1, fa163_2, fa163_3, fa163_4, fa163_5, fa163_6⟩⟩ := hQ163
    have N163 : Fr n0 L163 := Eq.mpr (congrArg (Fr n0) l163) (Fr.app N54 N163q)
    have Z163 : n0 ≤ T163.heap.size := Nat.le_trans Z54 K163q.1
    have c164 : Arv Z T163.heap b3 k3 .long (4 : Int32) [(.long y14_0), (.long y16_1), (.long y16_2), (.long y15_3)] (.long (0 : Int64)) := c55.keep K163q (ninS ne18 nin0)
    have c165 : Exa Z T163.heap b20 "com/example/causeline/causeline/core/CopyTable" := c56.keep K163q
    have c166 : Exa Z T163.heap b17 "com/example/causeline/causeline/core/Filing" := c57.keep K163q
    have c167 : Exa Z T163.heap b43 "com/example/causeline/causeline/core/Waiting" := c62.keep K163q
    have c168 : Fld Z T163.heap b43 "com/example/causeline/causeline/core/Waiting" "order" "J" (.long (7 : Int64)) := f54_0.keep K163q (ninS (Ne.symm ne46) nin0)
    have K163 : Keep h0 T163.heap [] := K54.trans K163q (allS (Or.inr sz_b17) all0)
    have nevn163_b3 : b3 ≠ vn163 := Nat.ne_of_lt (Nat.lt_of_lt_of_le c55.lt szn163)
    have nevo163_b3 : b3 ≠ vo163 := Nat.ne_of_lt (Nat.lt_of_lt_of_le c55.lt szo163)
    have nevn163_b20 : b20 ≠ vn163 := Nat.ne_of_lt (Nat.lt_of_lt_of_le c56.lt szn163)
    have nevo163_b20 : b20 ≠ vo163 := Nat.ne_of_lt (Nat.lt_of_lt_of_le c56.lt szo163)
    have nevn163_b17 : b17 ≠ vn163 := Nat.ne_of_lt (Nat.lt_of_lt_of_le c61.lt szn163)
    have nevo163_b17 : b17 ≠ vo163 := Nat.ne_of_lt (Nat.lt_of_lt_of_le c61.lt szo163)
    have nevn163_b43 : b43 ≠ vn163 := Nat.ne_of_lt (Nat.lt_of_lt_of_le f54_0.lt szn163)
    have nevo163_b43 : b43 ≠ vo163 := Nat.ne_of_lt (Nat.lt_of_lt_of_le f54_0.lt szo163)
    have g_vn163 := gn163
    have sz_vn163 : h0.size ≤ vn163 := Nat.le_trans K54.1 szn163
    have g_vo163 := go163
    have sz_vo163 : h0.size ≤ vo163 := Nat.le_trans K54.1 szo163
    obtain ⟨cl169, Ar169, q169, S169, NN169, HH169, GG169⟩ := id c164
    have hin169 : ¬ ((1 : Int32) < 0 ∨ cl169.slots.size ≤ ((1 : Int32)).toNatClampNeg) := inb_of S169 ⟨by decide, by decide⟩
    have hat169 : cl169.slots[((1 : Int32)).toNatClampNeg]? = some (.long y16_1) := HH169.at hin169 rfl
    obtain ⟨cq170, kq170, q170a, q170b, q170c⟩ := isOf hZ rfl fa163_0
    obtain ⟨_, _, ⟨T170, L170, k170, n170⟩, -, X170, ⟨Lc170, hQ170, l170, y170, z170⟩, st170⟩ := X163.virtualBack hx (y := (⟨"com/example/causeline/causeline/core/Filing", "add", "(JLcom/example/causeline/causeline/core/Waiting;)V"⟩ : MethodName)) (z := (⟨"com/example/causeline/causeline/core/Filing", "add", "(JLcom/example/causeline/causeline/core/Waiting;)V"⟩ : MethodName)) hown (mvT hZ (hw _ (List.mem_of_getElem? (i := 61) rfl))) (mvT hZ (hw _ (List.mem_of_getElem? (i := 62) rfl))) (notFace_of_selects (args := #[]) (mvT hZ (hw _ (List.mem_of_getElem? (i := 64) rfl)))) (mvT hZ (hw _ (List.mem_of_getElem? (i := 64) rfl))) (mvT hZ (hw _ (List.mem_of_getElem? (i := 63) rfl))) (by decide) (backOf (W := 0) (rmAdd1 l Z a0 hw [] b17 y16_1 b43 vn163 kn163 vo163 ko163 (7 : Int64) y14_0 T163.heap n0 Z163 fa163_0 fa163_1 fa163_2 fa163_3 fa163_4 fa163_5 fa163_6 c168 g_b17 g_vn163 g_vo163 nevn163_b17 nevo163_b17 nno163 ne46 nevn163_b43 nevo163_b43 s01) hZ (hw _ (List.mem_of_getElem? (i := 65) rfl)) (hw _ (List.mem_of_getElem? (i := 7) rfl)) (by decide) (by decide)) q170a q170c (g := (mkF m 144 #[.val (.long va_), .second, .val (.long vb_), .second, .val (.long vc_), .second, .val (.long ve_), .second, .val (.long vq), .second, .val (.int vctl), .val (.int (3 : Int32)), .val (.int (Int32.ofNat dn)), .val (.ref b3), .val (.ref b17), .val (.ref b43), .unset, .unset] [(.ref b43), (.long y16_1), (.ref b17)])) rfl (by rw [hml]; rfl) (Steps.refl _) (argsL := [(.long y16_1), (.ref b43)]) (rest := []) (lenOf pd_8 rfl) rfl (by show 2 * 0 + _ ≤ _; exact Nat.le_of_eq rfl) (hb hby at_144) (fun _ _ => ⟨rfl, rfl, (by decide : 8 + 0 ≤ _), (by decide : 41 + 0 ≤ _)⟩)
    dsimp only [Pt.U, Pt.locs, Pt.cells, Pt.slots] at X170 l170 y170 z170 st170 hQ170
    obtain rfl : k170 = 8 := y170; obtain rfl : n170 = 41 := z170
    obtain ⟨rfl, N170q, K170q, f170_0, f170_1, f170_2, f170_3, f170_4, f170_5, f170_6⟩ := hQ170
    have N170 : Fr n0 L170 := Eq.mpr (congrArg (Fr n0) l170) (Fr.app N163 N170q)
    have Z170 : n0 ≤ T170.heap.size := Nat.le_trans Z163 K170q.1
    have c171 : Arv Z T170.heap b3 k3 .long (4 : Int32) [(.long y14_0), (.long y16_1), (.long y16_2), (.long y15_3)] (.long (0 : Int64)) := c164.keep K170q (ninS ne18 (ninS nevn163_b3 (ninS nevo163_b3 nin0)))
    have c172 : Exa Z T170.heap b20 "com/example/causeline/causeline/core/CopyTable" := c165.keep K170q
    have c173 : Exa Z T170.heap b43 "com/example/causeline/causeline/core/Waiting" := c167.keep K170q
    have c174 : Fld Z T170.heap b43 "com/example/causeline/causeline/core/Waiting" "order" "J" (.long (7 : Int64)) := c168.keep K170q (ninS (Ne.symm ne46) (ninS nevn163_b43 (ninS nevo163_b43 nin0)))
    have c175 : Exa Z T170.heap b17 "com/example/causeline/causeline/core/Filing" := fa163_0.keep K170q
    have K170 : Keep h0 T170.heap [] := K163.trans K170q (allS (Or.inr sz_b17) (allS (Or.inr sz_vn163) (allS (Or.inr sz_vo163) all0)))
    obtain ⟨cl176, Ar176, q176, S176, NN176, HH176, GG176⟩ := id c171
    have hin176 : ¬ ((2 : Int32) < 0 ∨ cl176.slots.size ≤ ((2 : Int32)).toNatClampNeg) := inb_of S176 ⟨by decide, by decide⟩
    have hat176 : cl176.slots[((2 : Int32)).toNatClampNeg]? = some (.long y16_2) := HH176.at hin176 rfl
    obtain ⟨cq177, kq177, q177a, q177b, q177c⟩ := isOf hZ rfl f170_0
    obtain ⟨_, _, ⟨T177, L177, k177, n177⟩, -, X177, ⟨Lc177, hQ177, l177, y177, z177⟩, st177⟩ := X170.virtualBack hx (y := (⟨"com/example/causeline/causeline/core/Filing", "add", "(JLcom/example/causeline/causeline/core/Waiting;)V"⟩ : MethodName)) (z := (⟨"com/example/causeline/causeline/core/Filing", "add", "(JLcom/example/causeline/causeline/core/Waiting;)V"⟩ : MethodName)) hown (mvT hZ (hw _ (List.mem_of_getElem? (i := 61) rfl))) (mvT hZ (hw _ (List.mem_of_getElem? (i := 62) rfl))) (notFace_of_selects (args := #[]) (mvT hZ (hw _ (List.mem_of_getElem? (i := 64) rfl)))) (mvT hZ (hw _ (List.mem_of_getElem? (i := 64) rfl))) (mvT hZ (hw _ (List.mem_of_getElem? (i := 63) rfl))) (by decide) (backOf (W := 0) (rmAdd2 l Z a0 hw [] b17 y16_2 b43 vn163 kn163 vo163 ko163 (7 : Int64) y14_0 y16_1 T170.heap n0 Z170 f170_0 f170_1 f170_2 f170_3 f170_4 f170_5 f170_6 c174 g_b17 g_vn163 g_vo163 nevn163_b17 nevo163_b17 nno163 ne46 nevn163_b43 nevo163_b43 s12) hZ (hw _ (List.mem_of_getElem? (i := 65) rfl)) (hw _ (List.mem_of_getElem? (i := 7) rfl)) (by decide) (by decide)) q177a q177c (g := (mkF m 161 #[.val (.long va_), .second, .val (.long vb_), .second, .val (.long vc_), .second, .val (.long ve_), .second, .val (.long vq), .second, .val (.int vctl), .val (.int (3 : Int32)), .val (.int (Int32.ofNat dn)), .val (.ref b3), .val (.ref b17), .val (.ref b43), .unset, .unset] [(.ref b43), (.long y16_2), (.ref b17)])) rfl (by rw [hml]; rfl) (Steps.refl _) (argsL := [(.long y16_2), (.ref b43)]) (rest := []) (lenOf pd_8 rfl) rfl (by show 2 * 0 + _ ≤ _; exact Nat.le_of_eq rfl) (hb hby at_161) (fun _ _ => ⟨rfl, rfl, (by decide : 8 + 0 ≤ _), (by decide : 41 + 0 ≤ _)⟩)
    dsimp only [Pt.U, Pt.locs, Pt.cells, Pt.slots] at X177 l177 y177 z177 st177 hQ177
    obtain rfl : k177 = 8 := y177; obtain rfl : n177 = 41 := z177
    obtain ⟨rfl, N177q, K177q, f177_0, f177_1, f177_2, f177_3, f177_4, f177_5, f177_6⟩ := hQ177
    have N177 : Fr n0 L177 := Eq.mpr (congrArg (Fr n0) l177) (Fr.app N170 N177q)
    have Z177 : n0 ≤ T177.heap.size := Nat.le_trans Z170 K177q.1
    have c178 : Arv Z T177.heap b3 k3 .long (4 : Int32) [(.long y14_0), (.long y16_1), (.long y16_2), (.long y15_3)] (.long (0 : Int64)) := c171.keep K177q (ninS ne18 (ninS nevn163_b3 (ninS nevo163_b3 nin0)))
    have c179 : Exa Z T177.heap b20 "com/example/causeline/causeline/core/CopyTable" := c172.keep K177q
    have c180 : Exa Z T177.heap b43 "com/example/causeline/causeline/core/Waiting" := c173.keep K177q
    have c181 : Fld Z T177.heap b43 "com/example/causeline/causeline/core/Waiting" "order" "J" (.long (7 : Int64)) := c174.keep K177q (ninS (Ne.symm ne46) (ninS nevn163_b43 (ninS nevo163_b43 nin0)))
    have c182 : Exa Z T177.heap b17 "com/example/causeline/causeline/core/Filing" := f170_0.keep K177q
    have K177 : Keep h0 T177.heap [] := K170.trans K177q (allS (Or.inr sz_b17) (allS (Or.inr sz_vn163) (allS (Or.inr sz_vo163) all0)))
    obtain ⟨cq183, kq183, q183a, q183b, q183c⟩ := isOf hZ rfl f177_0
    obtain ⟨_, _, ⟨T183, L183, k183, n183⟩, -, X183, ⟨Lc183, hQ183, l183, y183, z183⟩, st183⟩ := X177.virtualBack hx (y := (⟨"com/example/causeline/causeline/core/Filing", "removeBefore", "(I)I"⟩ : MethodName)) (z := (⟨"com/example/causeline/causeline/core/Filing", "removeBefore", "(I)I"⟩ : MethodName)) hown (mvT hZ (hw _ (List.mem_of_getElem? (i := 83) rfl))) (mvT hZ (hw _ (List.mem_of_getElem? (i := 84) rfl))) (notFace_of_selects (args := #[]) (mvT hZ (hw _ (List.mem_of_getElem? (i := 86) rfl)))) (mvT hZ (hw _ (List.mem_of_getElem? (i := 86) rfl))) (mvT hZ (hw _ (List.mem_of_getElem? (i := 85) rfl))) (by decide) (backOf (W := 0) (rm9 l Z a0 hw [] b17 (Int32.ofNat dn) vn163 (0 : Int32) (3 : Int32) T177.heap n0 Z177 f177_0 f177_1 f177_3 f177_4 g_b17) hZ (hw _ (List.mem_of_getElem? (i := 87) rfl)) (hw _ (List.mem_of_getElem? (i := 7) rfl)) (by decide) (by decide)) q183a q183c (g := (mkF m 185 #[.val (.long va_), .second, .val (.long vb_), .second, .val (.long vc_), .second, .val (.long ve_), .second, .val (.long vq), .second, .val (.int vctl), .val (.int (3 : Int32)), .val (.int (Int32.ofNat dn)), .val (.ref b3), .val (.ref b17), .val (.ref b43), .unset, .unset] [(.int (Int32.ofNat dn)), (.ref b17)])) rfl (by rw [hml]; rfl) (Steps.refl _) (argsL := [(.int (Int32.ofNat dn))]) (rest := []) (lenOf pd_5 rfl) rfl (by show 2 * 0 + _ ≤ _; exact Nat.le_of_eq rfl) (hb hby at_185) (fun _ _ => ⟨rfl, rfl, (by decide : 8 + 0 ≤ _), (by decide : 41 + 0 ≤ _)⟩)
    dsimp only [Pt.U, Pt.locs, Pt.cells, Pt.slots] at X183 l183 y183 z183 st183 hQ183
    obtain rfl : k183 = 8 := y183; obtain rfl : n183 = 41 := z183
    obtain ⟨rfl, N183q, K183q, f183_0, f183_1, f183_2, f183_3⟩ := hQ183
    have N183 : Fr n0 L183 := Eq.mpr (congrArg (Fr n0) l183) (Fr.app N177 N183q)
    have Z183 : n0 ≤ T183.heap.size := Nat.le_trans Z177 K183q.1
    have c184 : Arv Z T183.heap b3 k3 .long (4 : Int32) [(.long y14_0), (.long y16_1), (.long y16_2), (.long y15_3)] (.long (0 : Int64)) := c178.keep K183q (ninS ne18 nin0)
    have c185 : Exa Z T183.heap b20 "com/example/causeline/causeline/core/CopyTable" := c179.keep K183q
    have c186 : Exa Z T183.heap b43 "com/example/causeline/causeline/core/Waiting" := c180.keep K183q
    have c187 : Fld Z T183.heap b43 "com/example/causeline/causeline/core/Waiting" "order" "J" (.long (7 : Int64)) := c181.keep K183q (ninS (Ne.symm ne46) nin0)
    have c188 : Exa Z T183.heap b17 "com/example/causeline/causeline/core/Filing" := f177_0.keep K183q
    have c189 : Arv Z T183.heap vn163 kn163 .long (4 : Int32) [(.long y14_0), (.long y16_1), (.long y16_2), (.long (0 : Int64))] (.long (0 : Int64)) := f177_5.keep K183q (ninS (Ne.symm nevn163_b17) nin0)
    have c190 : Arv Z T183.heap vo163 ko163 .long (4 : Int32) [(.long (7 : Int64)), (.long (7 : Int64)), (.long (7 : Int64)), (.long (0 : Int64))] (.long (0 : Int64)) := f177_6.keep K183q (ninS (Ne.symm nevo163_b17) nin0)
    have K183 : Keep h0 T183.heap [] := K177.trans K183q (allS (Or.inr sz_b17) all0)
    have g191 : Fld Z T183.heap b17 "com/example/causeline/causeline/core/Filing" "first" "I" (.int (Int32.ofNat (if dn = 3 then 0 else dn))) := by have q := f183_2; rw [own_ef_n3 (own_w0 hdn (by decide))] at q; exact q
    have g192 : Fld Z T183.heap b17 "com/example/causeline/causeline/core/Filing" "end" "I" (.int (Int32.ofNat (if dn = 3 then 0 else 3))) := by have q := f183_3; rw [own_ee_n3 (own_w0 hdn (by decide))] at q; exact q
    obtain ⟨cq193, kq193, q193a, q193b, q193c⟩ := isOf hZ rfl f183_0
    obtain ⟨_, _, ⟨T193, L193, k193, n193⟩, -, X193, ⟨Lc193, hQ193, l193, y193, z193⟩, st193⟩ := X183.virtualBack hx (y := (⟨"com/example/causeline/causeline/core/Filing", "past", "(J)I"⟩ : MethodName)) (z := (⟨"com/example/causeline/causeline/core/Filing", "past", "(J)I"⟩ : MethodName)) hown (mvT hZ (hw _ (List.mem_of_getElem? (i := 92) rfl))) (mvT hZ (hw _ (List.mem_of_getElem? (i := 93) rfl))) (notFace_of_selects (args := #[]) (mvT hZ (hw _ (List.mem_of_getElem? (i := 95) rfl)))) (mvT hZ (hw _ (List.mem_of_getElem? (i := 95) rfl))) (mvT hZ (hw _ (List.mem_of_getElem? (i := 94) rfl))) (by decide) (backOf (W := 0) (rm11 l Z a0 hw [] b17 vq vn163 kn163 (4 : Int32) [y14_0, y16_1, y16_2, (0 : Int64)] (if dn = 3 then 0 else dn) (if dn = 3 then 0 else 3) T183.heap n0 Z183 f183_1 g191 g192 c189 (own_w1 hdn (by decide)) (own_w2 hdn (by decide)) (own_w3 hdn (by decide)) (Or.inr rfl)) hZ (hw _ (List.mem_of_getElem? (i := 96) rfl)) (hw _ (List.mem_of_getElem? (i := 7) rfl)) (by decide) (by decide)) q193a q193c (g := (mkF m 193 #[.val (.long va_), .second, .val (.long vb_), .second, .val (.long vc_), .second, .val (.long ve_), .second, .val (.long vq), .second, .val (.int vctl), .val (.int (3 : Int32)), .val (.int (Int32.ofNat dn)), .val (.ref b3), .val (.ref b17), .val (.ref b43), .unset, .unset] [(.long vq), (.ref b17)])) rfl (by rw [hml]; rfl) (Steps.refl _) (argsL := [(.long vq)]) (rest := []) (lenOf pd_6 rfl) rfl (by show 2 * 0 + _ ≤ _; exact Nat.le_of_eq rfl) (hb hby at_193) (fun _ _ => ⟨rfl, rfl, (by decide : 8 + 0 ≤ _), (by decide : 41 + 0 ≤ _)⟩)
    dsimp only [Pt.U, Pt.locs, Pt.cells, Pt.slots] at X193 l193 y193 z193 st193 hQ193
    obtain rfl : k193 = 8 := y193; obtain rfl : n193 = 41 := z193
    obtain ⟨rfl, N193q, K193q⟩ := hQ193
    have N193 : Fr n0 L193 := Eq.mpr (congrArg (Fr n0) l193) (Fr.app N183 N193q)
    have Z193 : n0 ≤ T193.heap.size := Nat.le_trans Z183 K193q.1
    have c194 : Arv Z T193.heap b3 k3 .long (4 : Int32) [(.long y14_0), (.long y16_1), (.long y16_2), (.long y15_3)] (.long (0 : Int64)) := c184.keep K193q nin0
    have c195 : Exa Z T193.heap b20 "com/example/causeline/causeline/core/CopyTable" := c185.keep K193q
    have c196 : Exa Z T193.heap b43 "com/example/causeline/causeline/core/Waiting" := c186.keep K193q
    have c197 : Fld Z T193.heap b43 "com/example/causeline/causeline/core/Waiting" "order" "J" (.long (7 : Int64)) := c187.keep K193q nin0
    have c198 : Arv Z T193.heap vn163 kn163 .long (4 : Int32) [(.long y14_0), (.long y16_1), (.long y16_2), (.long (0 : Int64))] (.long (0 : Int64)) := c189.keep K193q nin0
    have c199 : Arv Z T193.heap vo163 ko163 .long (4 : Int32) [(.long (7 : Int64)), (.long (7 : Int64)), (.long (7 : Int64)), (.long (0 : Int64))] (.long (0 : Int64)) := c190.keep K193q nin0
    have c200 : Exa Z T193.heap b17 "com/example/causeline/causeline/core/Filing" := f183_0.keep K193q
    have c201 : Fld Z T193.heap b17 "com/example/causeline/causeline/core/Filing" "numbers" "[J" (.ref vn163) := f183_1.keep K193q nin0
    have c202 : Fld Z T193.heap b17 "com/example/causeline/causeline/core/Filing" "first" "I" (.int (Int32.ofNat (if dn = 3 then 0 else dn))) := g191.keep K193q nin0
    have c203 : Fld Z T193.heap b17 "com/example/causeline/causeline/core/Filing" "end" "I" (.int (Int32.ofNat (if dn = 3 then 0 else 3))) := g192.keep K193q nin0
    have K193 : Keep h0 T193.heap [] := K183.trans K193q all0
    have pre204 : ∀ t, Steps p.tables e below (T193.setTop (mkF m 202 #[.val (.long va_), .second, .val (.long vb_), .second, .val (.long vc_), .second, .val (.long ve_), .second, .val (.long vq), .second, .val (.int vctl), .val (.int (3 : Int32)), .val (.int (Int32.ofNat dn)), .val (.ref b3), .val (.ref b17), .val (.ref b43), .val (.int (Int32.ofNat (own_bs (own_g [y14_0, y16_1, y16_2, (0 : Int64)] vq) 4 (if dn = 3 then 0 else dn) (if dn = 3 then 0 else 3)))), .unset] [(.int (3 : Int32)), (.int (Int32.ofNat dn))])) t → Steps p.tables e below (s₁.setTop (entryFrame m #[(.long va_), (.long vb_), (.long vc_), (.long ve_), (.long vq), (.int vctl)] maxLocals)) t := by
      intro t kt
      refine pre63 t ?_
      show Steps p.tables e below (T54.setTop (mkF m 114 #[.val (.long va_), .second, .val (.long vb_), .second, .val (.long vc_), .second, .val (.long ve_), .second, .val (.long vq), .second, .val (.int vctl), .val (.int (3 : Int32)), .val (.int (Int32.ofNat dn)), .val (.ref b3), .val (.ref b17), .val (.ref b43), .unset, .unset] [])) _
      refine XS.iload X54.here hx rfl (hb hby at_114) rfl ?_
      show Steps p.tables e below (T54.setTop (mkF m 116 #[.val (.long va_), .second, .val (.long vb_), .second, .val (.long vc_), .second, .val (.long ve_), .second, .val (.long vq), .second, .val (.int vctl), .val (.int (3 : Int32)), .val (.int (Int32.ofNat dn)), .val (.ref b3), .val (.ref b17), .val (.ref b43), .unset, .unset] [(.int (3 : Int32))])) _
      refine XS.ifNo X54.here hx rfl (hb hby at_116) rfl ((if0 _ _).trans (tlt ((by decide) : (0 : Int32) < (3 : Int32))).2.2.2) ?_
      show Steps p.tables e below (T54.setTop (mkF m 119 #[.val (.long va_), .second, .val (.long vb_), .second, .val (.long vc_), .second, .val (.long ve_), .second, .val (.long vq), .second, .val (.int vctl), .val (.int (3 : Int32)), .val (.int (Int32.ofNat dn)), .val (.ref b3), .val (.ref b17), .val (.ref b43), .unset, .unset] [])) _
      refine XS.aload X54.here hx rfl (hb hby at_119) rfl rfl ?_
      show Steps p.tables e below (T54.setTop (mkF m 121 #[.val (.long va_), .second, .val (.long vb_), .second, .val (.long vc_), .second, .val (.long ve_), .second, .val (.long vq), .second, .val (.int vctl), .val (.int (3 : Int32)), .val (.int (Int32.ofNat dn)), .val (.ref b3), .val (.ref b17), .val (.ref b43), .unset, .unset] [(.ref b17)])) _
      refine XS.aload X54.here hx rfl (hb hby at_121) rfl rfl ?_
      show Steps p.tables e below (T54.setTop (mkF m 123 #[.val (.long va_), .second, .val (.long vb_), .second, .val (.long vc_), .second, .val (.long ve_), .second, .val (.long vq), .second, .val (.int vctl), .val (.int (3 : Int32)), .val (.int (Int32.ofNat dn)), .val (.ref b3), .val (.ref b17), .val (.ref b43), .unset, .unset] [(.ref b3), (.ref b17)])) _
      refine XS.iconst X54.here hx rfl (hb hby at_123) ?_
      show Steps p.tables e below (T54.setTop (mkF m 124 #[.val (.long va_), .second, .val (.long vb_), .second, .val (.long vc_), .second, .val (.long ve_), .second, .val (.long vq), .second, .val (.int vctl), .val (.int (3 : Int32)), .val (.int (Int32.ofNat dn)), .val (.ref b3), .val (.ref b17), .val (.ref b43), .unset, .unset] [(.int (0 : Int32)), (.ref b3), (.ref b17)])) _
      refine X54.laload hx (j := (0 : Int32)) (v := (.long y14_0)) (by exact Ar162.1) (State.isArrayOf_alike hZ.alike Ar162.2.1) Ar162.2.2 hin162 hat162 (g := (mkF m 124 #[.val (.long va_), .second, .val (.long vb_), .second, .val (.long vc_), .second, .val (.long ve_), .second, .val (.long vq), .second, .val (.int vctl), .val (.int (3 : Int32)), .val (.int (Int32.ofNat dn)), .val (.ref b3), .val (.ref b17), .val (.ref b43), .unset, .unset] [(.int (0 : Int32)), (.ref b3), (.ref b17)])) rfl rfl (hb hby at_124) _ ?_
      show Steps p.tables e below (T54.setTop (mkF m 125 #[.val (.long va_), .second, .val (.long vb_), .second, .val (.long vc_), .second, .val (.long ve_), .second, .val (.long vq), .second, .val (.int vctl), .val (.int (3 : Int32)), .val (.int (Int32.ofNat dn)), .val (.ref b3), .val (.ref b17), .val (.ref b43), .unset, .unset] [(.long y14_0), (.ref b17)])) _
      refine XS.aload X54.here hx rfl (hb hby at_125) rfl rfl ?_
      show Steps p.tables e below (T54.setTop (mkF m 127 #[.val (.long va_), .second, .val (.long vb_), .second, .val (.long vc_), .second, .val (.long ve_), .second, .val (.long vq), .second, .val (.int vctl), .val (.int (3 : Int32)), .val (.int (Int32.ofNat dn)), .val (.ref b3), .val (.ref b17), .val (.ref b43), .unset, .unset] [(.ref b43), (.long y14_0), (.ref b17)])) _
      refine st163.trans ?_
      show Steps p.tables e below (T163.setTop (mkF m 130 #[.val (.long va_), .second, .val (.long vb_), .second, .val (.long vc_), .second, .val (.long ve_), .second, .val (.long vq), .second, .val (.int vctl), .val (.int (3 : Int32)), .val (.int (Int32.ofNat dn)), .val (.ref b3), .val (.ref b17), .val (.ref b43), .unset, .unset] [])) _
      refine XS.iload X163.here hx rfl (hb hby at_130) rfl ?_
      show Steps p.tables e below (T163.setTop (mkF m 132 #[.val (.long va_), .second, .val (.long vb_), .second, .val (.long vc_), .second, .val (.long ve_), .second, .val (.long vq), .second, .val (.int vctl), .val (.int (3 : Int32)), .val (.int (Int32.ofNat dn)), .val (.ref b3), .val (.ref b17), .val (.ref b43), .unset, .unset] [(.int (3 : Int32))])) _
      refine XS.iconst X163.here hx rfl (hb hby at_132) ?_
      show Steps p.tables e below (T163.setTop (mkF m 133 #[.val (.long va_), .second, .val (.long vb_), .second, .val (.long vc_), .second, .val (.long ve_), .second, .val (.long vq), .second, .val (.int vctl), .val (.int (3 : Int32)), .val (.int (Int32.ofNat dn)), .val (.ref b3), .val (.ref b17), .val (.ref b43), .unset, .unset] [(.int (1 : Int32)), (.int (3 : Int32))])) _
      refine XS.icmpNo X163.here hx rfl (hb hby at_133) rfl (tlt ((by decide) : (1 : Int32) < (3 : Int32))).2.2.2 ?_
      show Steps p.tables e below (T163.setTop (mkF m 136 #[.val (.long va_), .second, .val (.long vb_), .second, .val (.long vc_), .second, .val (.long ve_), .second, .val (.long vq), .second, .val (.int vctl), .val (.int (3 : Int32)), .val (.int (Int32.ofNat dn)), .val (.ref b3), .val (.ref b17), .val (.ref b43), .unset, .unset] [])) _
      refine XS.aload X163.here hx rfl (hb hby at_136) rfl rfl ?_
      show Steps p.tables e below (T163.setTop (mkF m 138 #[.val (.long va_), .second, .val (.long vb_), .second, .val (.long vc_), .second, .val (.long ve_), .second, .val (.long vq), .second, .val (.int vctl), .val (.int (3 : Int32)), .val (.int (Int32.ofNat dn)), .val (.ref b3), .val (.ref b17), .val (.ref b43), .unset, .unset] [(.ref b17)])) _
      refine XS.aload X163.here hx rfl (hb hby at_138) rfl rfl ?_
      show Steps p.tables e below (T163.setTop (mkF m 140 #[.val (.long va_), .second, .val (.long vb_), .second, .val (.long vc_), .second, .val (.long ve_), .second, .val (.long vq), .second, .val (.int vctl), .val (.int (3 : Int32)), .val (.int (Int32.ofNat dn)), .val (.ref b3), .val (.ref b17), .val (.ref b43), .unset, .unset] [(.ref b3), (.ref b17)])) _
      refine XS.iconst X163.here hx rfl (hb hby at_140) ?_
      show Steps p.tables e below (T163.setTop (mkF m 141 #[.val (.long va_), .second, .val (.long vb_), .second, .val (.long vc_), .second, .val (.long ve_), .second, .val (.long vq), .second, .val (.int vctl), .val (.int (3 : Int32)), .val (.int (Int32.ofNat dn)), .val (.ref b3), .val (.ref b17), .val (.ref b43), .unset, .unset] [(.int (1 : Int32)), (.ref b3), (.ref b17)])) _
      refine X163.laload hx (j := (1 : Int32)) (v := (.long y16_1)) (by exact Ar169.1) (State.isArrayOf_alike hZ.alike Ar169.2.1) Ar169.2.2 hin169 hat169 (g := (mkF m 141 #[.val (.long va_), .second, .val (.long vb_), .second, .val (.long vc_), .second, .val (.long ve_), .second, .val (.long vq), .second, .val (.int vctl), .val (.int (3 : Int32)), .val (.int (Int32.ofNat dn)), .val (.ref b3), .val (.ref b17), .val (.ref b43), .unset, .unset] [(.int (1 : Int32)), (.ref b3), (.ref b17)])) rfl rfl (hb hby at_141) _ ?_
      show Steps p.tables e below (T163.setTop (mkF m 142 #[.val (.long va_), .second, .val (.long vb_), .second, .val (.long vc_), .second, .val (.long ve_), .second, .val (.long vq), .second, .val (.int vctl), .val (.int (3 : Int32)), .val (.int (Int32.ofNat dn)), .val (.ref b3), .val (.ref b17), .val (.ref b43), .unset, .unset] [(.long y16_1), (.ref b17)])) _
      refine XS.aload X163.here hx rfl (hb hby at_142) rfl rfl ?_
      show Steps p.tables e below (T163.setTop (mkF m 144 #[.val (.long va_), .second, .val (.long vb_), .second, .val (.long vc_), .second, .val (.long ve_), .second, .val (.long vq), .second, .val (.int vctl), .val (.int (3 : Int32)), .val (.int (Int32.ofNat dn)), .val (.ref b3), .val (.ref b17), .val (.ref b43), .unset, .unset] [(.ref b43), (.long y16_1), (.ref b17)])) _
      refine st170.trans ?_
      show Steps p.tables e below (T170.setTop (mkF m 147 #[.val (.long va_), .second, .val (.long vb_), .second, .val (.long vc_), .second, .val (.long ve_), .second, .val (.long vq), .second, .val (.int vctl), .val (.int (3 : Int32)), .val (.int (Int32.ofNat dn)), .val (.ref b3), .val (.ref b17), .val (.ref b43), .unset, .unset] [])) _
      refine XS.iload X170.here hx rfl (hb hby at_147) rfl ?_
      show Steps p.tables e below (T170.setTop (mkF m 149 #[.val (.long va_), .second, .val (.long vb_), .second, .val (.long vc_), .second, .val (.long ve_), .second, .val (.long vq), .second, .val (.int vctl), .val (.int (3 : Int32)), .val (.int (Int32.ofNat dn)), .val (.ref b3), .val (.ref b17), .val (.ref b43), .unset, .unset] [(.int (3 : Int32))])) _
      refine XS.iconst X170.here hx rfl (hb hby at_149) ?_
      show Steps p.tables e below (T170.setTop (mkF m 150 #[.val (.long va_), .second, .val (.long vb_), .second, .val (.long vc_), .second, .val (.long ve_), .second, .val (.long vq), .second, .val (.int vctl), .val (.int (3 : Int32)), .val (.int (Int32.ofNat dn)), .val (.ref b3), .val (.ref b17), .val (.ref b43), .unset, .unset] [(.int (2 : Int32)), (.int (3 : Int32))])) _
      refine XS.icmpNo X170.here hx rfl (hb hby at_150) rfl (tlt ((by decide) : (2 : Int32) < (3 : Int32))).2.2.2 ?_
      show Steps p.tables e below (T170.setTop (mkF m 153 #[.val (.long va_), .second, .val (.long vb_), .second, .val (.long vc_), .second, .val (.long ve_), .second, .val (.long vq), .second, .val (.int vctl), .val (.int (3 : Int32)), .val (.int (Int32.ofNat dn)), .val (.ref b3), .val (.ref b17), .val (.ref b43), .unset, .unset] [])) _
      refine XS.aload X170.here hx rfl (hb hby at_153) rfl rfl ?_
      show Steps p.tables e below (T170.setTop (mkF m 155 #[.val (.long va_), .second, .val (.long vb_), .second, .val (.long vc_), .second, .val (.long ve_), .second, .val (.long vq), .second, .val (.int vctl), .val (.int (3 : Int32)), .val (.int (Int32.ofNat dn)), .val (.ref b3), .val (.ref b17), .val (.ref b43), .unset, .unset] [(.ref b17)])) _
      refine XS.aload X170.here hx rfl (hb hby at_155) rfl rfl ?_
      show Steps p.tables e below (T170.setTop (mkF m 157 #[.val (.long va_), .second, .val (.long vb_), .second, .val (.long vc_), .second, .val (.long ve_), .second, .val (.long vq), .second, .val (.int vctl), .val (.int (3 : Int32)), .val (.int (Int32.ofNat dn)), .val (.ref b3), .val (.ref b17), .val (.ref b43), .unset, .unset] [(.ref b3), (.ref b17)])) _
      refine XS.iconst X170.here hx rfl (hb hby at_157) ?_
      show Steps p.tables e below (T170.setTop (mkF m 158 #[.val (.long va_), .second, .val (.long vb_), .second, .val (.long vc_), .second, .val (.long ve_), .second, .val (.long vq), .second, .val (.int vctl), .val (.int (3 : Int32)), .val (.int (Int32.ofNat dn)), .val (.ref b3), .val (.ref b17), .val (.ref b43), .unset, .unset] [(.int (2 : Int32)), (.ref b3), (.ref b17)])) _
      refine X170.laload hx (j := (2 : Int32)) (v := (.long y16_2)) (by exact Ar176.1) (State.isArrayOf_alike hZ.alike Ar176.2.1) Ar176.2.2 hin176 hat176 (g := (mkF m 158 #[.val (.long va_), .second, .val (.long vb_), .second, .val (.long vc_), .second, .val (.long ve_), .second, .val (.long vq), .second, .val (.int vctl), .val (.int (3 : Int32)), .val (.int (Int32.ofNat dn)), .val (.ref b3), .val (.ref b17), .val (.ref b43), .unset, .unset] [(.int (2 : Int32)), (.ref b3), (.ref b17)])) rfl rfl (hb hby at_158) _ ?_
      show Steps p.tables e below (T170.setTop (mkF m 159 #[.val (.long va_), .second, .val (.long vb_), .second, .val (.long vc_), .second, .val (.long ve_), .second, .val (.long vq), .second, .val (.int vctl), .val (.int (3 : Int32)), .val (.int (Int32.ofNat dn)), .val (.ref b3), .val (.ref b17), .val (.ref b43), .unset, .unset] [(.long y16_2), (.ref b17)])) _
      refine XS.aload X170.here hx rfl (hb hby at_159) rfl rfl ?_
      show Steps p.tables e below (T170.setTop (mkF m 161 #[.val (.long va_), .second, .val (.long vb_), .second, .val (.long vc_), .second, .val (.long ve_), .second, .val (.long vq), .second, .val (.int vctl), .val (.int (3 : Int32)), .val (.int (Int32.ofNat dn)), .val (.ref b3), .val (.ref b17), .val (.ref b43), .unset, .unset] [(.ref b43), (.long y16_2), (.ref b17)])) _
      refine st177.trans ?_
      show Steps p.tables e below (T177.setTop (mkF m 164 #[.val (.long va_), .second, .val (.long vb_), .second, .val (.long vc_), .second, .val (.long ve_), .second, .val (.long vq), .second, .val (.int vctl), .val (.int (3 : Int32)), .val (.int (Int32.ofNat dn)), .val (.ref b3), .val (.ref b17), .val (.ref b43), .unset, .unset] [])) _
      refine XS.iload X177.here hx rfl (hb hby at_164) rfl ?_
      show Steps p.tables e below (T177.setTop (mkF m 166 #[.val (.long va_), .second, .val (.long vb_), .second, .val (.long vc_), .second, .val (.long ve_), .second, .val (.long vq), .second, .val (.int vctl), .val (.int (3 : Int32)), .val (.int (Int32.ofNat dn)), .val (.ref b3), .val (.ref b17), .val (.ref b43), .unset, .unset] [(.int (3 : Int32))])) _
      refine XS.iconst X177.here hx rfl (hb hby at_166) ?_
      show Steps p.tables e below (T177.setTop (mkF m 167 #[.val (.long va_), .second, .val (.long vb_), .second, .val (.long vc_), .second, .val (.long ve_), .second, .val (.long vq), .second, .val (.int vctl), .val (.int (3 : Int32)), .val (.int (Int32.ofNat dn)), .val (.ref b3), .val (.ref b17), .val (.ref b43), .unset, .unset] [(.int (3 : Int32)), (.int (3 : Int32))])) _
      refine XS.icmpYes X177.here hx rfl (pc0 := 167) (pc' := 181) rfl (hb hby at_167) rfl (flt ((by decide) : ¬ ((3 : Int32) < (3 : Int32)))).2.2.2 (by decide) (by decide) ?_
      show Steps p.tables e below (T177.setTop (mkF m 181 #[.val (.long va_), .second, .val (.long vb_), .second, .val (.long vc_), .second, .val (.long ve_), .second, .val (.long vq), .second, .val (.int vctl), .val (.int (3 : Int32)), .val (.int (Int32.ofNat dn)), .val (.ref b3), .val (.ref b17), .val (.ref b43), .unset, .unset] [])) _
      refine XS.aload X177.here hx rfl (hb hby at_181) rfl rfl ?_
      show Steps p.tables e below (T177.setTop (mkF m 183 #[.val (.long va_), .second, .val (.long vb_), .second, .val (.long vc_), .second, .val (.long ve_), .second, .val (.long vq), .second, .val (.int vctl), .val (.int (3 : Int32)), .val (.int (Int32.ofNat dn)), .val (.ref b3), .val (.ref b17), .val (.ref b43), .unset, .unset] [(.ref b17)])) _
      refine XS.iload X177.here hx rfl (hb hby at_183) rfl ?_
      show Steps p.tables e below (T177.setTop (mkF m 185 #[.val (.long va_), .second, .val (.long vb_), .second, .val (.long vc_), .second, .val (.long ve_), .second, .val (.long vq), .second, .val (.int vctl), .val (.int (3 : Int32)), .val (.int (Int32.ofNat dn)), .val (.ref b3), .val (.ref b17), .val (.ref b43), .unset, .unset] [(.int (Int32.ofNat dn)), (.ref b17)])) _
      refine st183.trans ?_
      show Steps p.tables e below (T183.setTop (mkF m 188 #[.val (.long va_), .second, .val (.long vb_), .second, .val (.long vc_), .second, .val (.long ve_), .second, .val (.long vq), .second, .val (.int vctl), .val (.int (3 : Int32)), .val (.int (Int32.ofNat dn)), .val (.ref b3), .val (.ref b17), .val (.ref b43), .unset, .unset] [(.int ((Int32.ofNat dn) - (0 : Int32)))])) _
      refine XS.pop X183.here hx rfl (hb hby at_188) rfl rfl ?_
      show Steps p.tables e below (T183.setTop (mkF m 189 #[.val (.long va_), .second, .val (.long vb_), .second, .val (.long vc_), .second, .val (.long ve_), .second, .val (.long vq), .second, .val (.int vctl), .val (.int (3 : Int32)), .val (.int (Int32.ofNat dn)), .val (.ref b3), .val (.ref b17), .val (.ref b43), .unset, .unset] [])) _
      refine XS.aload X183.here hx rfl (hb hby at_189) rfl rfl ?_
      show Steps p.tables e below (T183.setTop (mkF m 191 #[.val (.long va_), .second, .val (.long vb_), .second, .val (.long vc_), .second, .val (.long ve_), .second, .val (.long vq), .second, .val (.int vctl), .val (.int (3 : Int32)), .val (.int (Int32.ofNat dn)), .val (.ref b3), .val (.ref b17), .val (.ref b43), .unset, .unset] [(.ref b17)])) _
      refine XS.lload X183.here hx rfl (hb hby at_191) rfl ?_
      show Steps p.tables e below (T183.setTop (mkF m 193 #[.val (.long va_), .second, .val (.long vb_), .second, .val (.long vc_), .second, .val (.long ve_), .second, .val (.long vq), .second, .val (.int vctl), .val (.int (3 : Int32)), .val (.int (Int32.ofNat dn)), .val (.ref b3), .val (.ref b17), .val (.ref b43), .unset, .unset] [(.long vq), (.ref b17)])) _
      refine st193.trans ?_
      show Steps p.tables e below (T193.setTop (mkF m 196 #[.val (.long va_), .second, .val (.long vb_), .second, .val (.long vc_), .second, .val (.long ve_), .second, .val (.long vq), .second, .val (.int vctl), .val (.int (3 : Int32)), .val (.int (Int32.ofNat dn)), .val (.ref b3), .val (.ref b17), .val (.ref b43), .unset, .unset] [(.int (Int32.ofNat (own_bs (own_g [y14_0, y16_1, y16_2, (0 : Int64)] vq) 4 (if dn = 3 then 0 else dn) (if dn = 3 then 0 else 3))))])) _
      refine XS.istore X193.here hx rfl (hb hby at_196) rfl (l' := #[.val (.long va_), .second, .val (.long vb_), .second, .val (.long vc_), .second, .val (.long ve_), .second, .val (.long vq), .second, .val (.int vctl), .val (.int (3 : Int32)), .val (.int (Int32.ofNat dn)), .val (.ref b3), .val (.ref b17), .val (.ref b43), .val (.int (Int32.ofNat (own_bs (own_g [y14_0, y16_1, y16_2, (0 : Int64)] vq) 4 (if dn = 3 then 0 else dn) (if dn = 3 then 0 else 3)))), .unset]) rfl ?_
      show Steps p.tables e below (T193.setTop (mkF m 198 #[.val (.long va_), .second, .val (.long vb_), .second, .val (.long vc_), .second, .val (.long ve_), .second, .val (.long vq), .second, .val (.int vctl), .val (.int (3 : Int32)), .val (.int (Int32.ofNat dn)), .val (.ref b3), .val (.ref b17), .val (.ref b43), .val (.int (Int32.ofNat (own_bs (own_g [y14_0, y16_1, y16_2, (0 : Int64)] vq) 4 (if dn = 3 then 0 else dn) (if dn = 3 then 0 else 3)))), .unset] [])) _
      refine XS.iload X193.here hx rfl (hb hby at_198) rfl ?_
      show Steps p.tables e below (T193.setTop (mkF m 200 #[.val (.long va_), .second, .val (.long vb_), .second, .val (.long vc_), .second, .val (.long ve_), .second, .val (.long vq), .second, .val (.int vctl), .val (.int (3 : Int32)), .val (.int (Int32.ofNat dn)), .val (.ref b3), .val (.ref b17), .val (.ref b43), .val (.int (Int32.ofNat (own_bs (own_g [y14_0, y16_1, y16_2, (0 : Int64)] vq) 4 (if dn = 3 then 0 else dn) (if dn = 3 then 0 else 3)))), .unset] [(.int (Int32.ofNat dn))])) _
      refine XS.iload X193.here hx rfl (hb hby at_200) rfl ?_
      exact kt
    by_cases hc205 : (Int32.ofNat dn) < (3 : Int32)
    ·
      obtain ⟨_, _, ⟨T206, L206, k206, n206⟩, -, X206, ⟨Lc206, hQ206, l206, y206, z206⟩, st206⟩ := Jvm.LawKit.callS X193 hx (y := (⟨"com/example/causeline/causeline/core/FilingPastPinLaw", "in", "([JIIIJ)I"⟩ : MethodName)) hown (mvT hZ (hw _ (List.mem_of_getElem? (i := 97) rfl))) (mvT hZ (hw _ (List.mem_of_getElem? (i := 98) rfl))) (mvT hZ (hw _ (List.mem_of_getElem? (i := 3) rfl))) (mvT hZ (hw _ (List.mem_of_getElem? (i := 99) rfl))) (by decide) (backOf (W := 1) (rmIn0 l Z a0 hw [] b3 (Int32.ofNat dn) (3 : Int32) vq y14_0 y16_1 y16_2 y15_3 k3 T193.heap n0 Z193 c194) hZ (hw _ (List.mem_of_getElem? (i := 99) rfl)) (hw _ (List.mem_of_getElem? (i := 3) rfl)) (by decide) (by decide)) (g := (mkF m 216 #[.val (.long va_), .second, .val (.long vb_), .second, .val (.long vc_), .second, .val (.long ve_), .second, .val (.long vq), .second, .val (.int vctl), .val (.int (3 : Int32)), .val (.int (Int32.ofNat dn)), .val (.ref b3), .val (.ref b17), .val (.ref b43), .val (.int (Int32.ofNat (own_bs (own_g [y14_0, y16_1, y16_2, (0 : Int64)] vq) 4 (if dn = 3 then 0 else dn) (if dn = 3 then 0 else 3)))), .unset] [(.long vq), (.int (3 : Int32)), (.int (Int32.ofNat dn)), (.int (0 : Int32)), (.ref b3), (.int (Int32.ofNat dn))])) rfl (by rw [hml]; rfl) (argsL := [(.ref b3), (.int (0 : Int32)), (.int (Int32.ofNat dn)), (.int (3 : Int32)), (.long vq)]) (rest := [(.int (Int32.ofNat dn))]) (lenOf pd_7 rfl) rfl (by show 2 * 0 + _ ≤ _; exact Nat.le_of_eq rfl) (hb hby at_216) (fun _ _ => ⟨rfl, rfl, (by decide : 8 + 0 ≤ _), (by decide : 41 + 0 ≤ _)⟩)
      dsimp only [Pt.U, Pt.locs, Pt.cells, Pt.slots] at X206 l206 y206 z206 st206 hQ206
      obtain rfl : k206 = 8 := y206; obtain rfl : n206 = 41 := z206
      obtain ⟨rfl, N206q, e206q⟩ := hQ206
      have N206 : Fr n0 L206 := Eq.mpr (congrArg (Fr n0) l206) (Fr.app N193 N206q)
      obtain ⟨_, _, ⟨T207, L207, k207, n207⟩, -, X207, ⟨Lc207, hQ207, l207, y207, z207⟩, st207⟩ := Jvm.LawKit.callS X206 hx (y := (⟨"com/example/causeline/causeline/core/FilingPastPinLaw", "in", "([JIIIJ)I"⟩ : MethodName)) hown (mvT hZ (hw _ (List.mem_of_getElem? (i := 97) rfl))) (mvT hZ (hw _ (List.mem_of_getElem? (i := 98) rfl))) (mvT hZ (hw _ (List.mem_of_getElem? (i := 3) rfl))) (mvT hZ (hw _ (List.mem_of_getElem? (i := 99) rfl))) (by decide) (backOf (W := 1) (rmIn1 l Z a0 hw [] b3 (Int32.ofNat dn) (3 : Int32) vq y14_0 y16_1 y16_2 y15_3 k3 T193.heap n0 Z193 c194) hZ (hw _ (List.mem_of_getElem? (i := 99) rfl)) (hw _ (List.mem_of_getElem? (i := 3) rfl)) (by decide) (by decide)) (g := (mkF m 229 #[.val (.long va_), .second, .val (.long vb_), .second, .val (.long vc_), .second, .val (.long ve_), .second, .val (.long vq), .second, .val (.int vctl), .val (.int (3 : Int32)), .val (.int (Int32.ofNat dn)), .val (.ref b3), .val (.ref b17), .val (.ref b43), .val (.int (Int32.ofNat (own_bs (own_g [y14_0, y16_1, y16_2, (0 : Int64)] vq) 4 (if dn = 3 then 0 else dn) (if dn = 3 then 0 else 3)))), .unset] [(.long vq), (.int (3 : Int32)), (.int (Int32.ofNat dn)), (.int (1 : Int32)), (.ref b3), (.int ((Int32.ofNat dn) + (own_in0 b3 (Int32.ofNat dn) (3 : Int32) vq y14_0 y16_1 y16_2 y15_3)))])) rfl (by rw [hml]; rfl) (argsL := [(.ref b3), (.int (1 : Int32)), (.int (Int32.ofNat dn)), (.int (3 : Int32)), (.long vq)]) (rest := [(.int ((Int32.ofNat dn) + (own_in0 b3 (Int32.ofNat dn) (3 : Int32) vq y14_0 y16_1 y16_2 y15_3)))]) (lenOf pd_7 rfl) rfl (by show 2 * 0 + _ ≤ _; exact Nat.le_of_eq rfl) (hb hby at_229) (fun _ _ => ⟨rfl, e206q, (by decide : 8 + 0 ≤ _), (by decide : 41 + 0 ≤ _)⟩)
      dsimp only [Pt.U, Pt.locs, Pt.cells, Pt.slots] at X207 l207 y207 z207 st207 hQ207
      obtain rfl : k207 = 8 := y207; obtain rfl : n207 = 41 := z207
      obtain ⟨rfl, N207q, e207q⟩ := hQ207
      have N207 : Fr n0 L207 := Eq.mpr (congrArg (Fr n0) l207) (Fr.app N206 N207q)
      obtain ⟨_, _, ⟨T208, L208, k208, n208⟩, -, X208, ⟨Lc208, hQ208, l208, y208, z208⟩, st208⟩ := Jvm.LawKit.callS X207 hx (y := (⟨"com/example/causeline/causeline/core/FilingPastPinLaw", "in", "([JIIIJ)I"⟩ : MethodName)) hown (mvT hZ (hw _ (List.mem_of_getElem? (i := 97) rfl))) (mvT hZ (hw _ (List.mem_of_getElem? (i := 98) rfl))) (mvT hZ (hw _ (List.mem_of_getElem? (i := 3) rfl))) (mvT hZ (hw _ (List.mem_of_getElem? (i := 99) rfl))) (by decide) (backOf (W := 1) (rmIn2 l Z a0 hw [] b3 (Int32.ofNat dn) (3 : Int32) vq y14_0 y16_1 y16_2 y15_3 k3 T193.heap n0 Z193 c194) hZ (hw _ (List.mem_of_getElem? (i := 99) rfl)) (hw _ (List.mem_of_getElem? (i := 3) rfl)) (by decide) (by decide)) (g := (mkF m 242 #[.val (.long va_), .second, .val (.long vb_), .second, .val (.long vc_), .second, .val (.long ve_), .second, .val (.long vq), .second, .val (.int vctl), .val (.int (3 : Int32)), .val (.int (Int32.ofNat dn)), .val (.ref b3), .val (.ref b17), .val (.ref b43), .val (.int (Int32.ofNat (own_bs (own_g [y14_0, y16_1, y16_2, (0 : Int64)] vq) 4 (if dn = 3 then 0 else dn) (if dn = 3 then 0 else 3)))), .unset] [(.long vq), (.int (3 : Int32)), (.int (Int32.ofNat dn)), (.int (2 : Int32)), (.ref b3), (.int (((Int32.ofNat dn) + (own_in0 b3 (Int32.ofNat dn) (3 : Int32) vq y14_0 y16_1 y16_2 y15_3)) + (own_in1 b3 (Int32.ofNat dn) (3 : Int32) vq y14_0 y16_1 y16_2 y15_3)))])) rfl (by rw [hml]; rfl) (argsL := [(.ref b3), (.int (2 : Int32)), (.int (Int32.ofNat dn)), (.int (3 : Int32)), (.long vq)]) (rest := [(.int (((Int32.ofNat dn) + (own_in0 b3 (Int32.ofNat dn) (3 : Int32) vq y14_0 y16_1 y16_2 y15_3)) + (own_in1 b3 (Int32.ofNat dn) (3 : Int32) vq y14_0 y16_1 y16_2 y15_3)))]) (lenOf pd_7 rfl) rfl (by show 2 * 0 + _ ≤ _; exact Nat.le_of_eq rfl) (hb hby at_242) (fun _ _ => ⟨rfl, e207q, (by decide : 8 + 0 ≤ _), (by decide : 41 + 0 ≤ _)⟩)
      dsimp only [Pt.U, Pt.locs, Pt.cells, Pt.slots] at X208 l208 y208 z208 st208 hQ208
      obtain rfl : k208 = 8 := y208; obtain rfl : n208 = 41 := z208
      obtain ⟨rfl, N208q, e208q⟩ := hQ208
      have N208 : Fr n0 L208 := Eq.mpr (congrArg (Fr n0) l208) (Fr.app N207 N208q)
      obtain ⟨_, _, ⟨T209, L209, k209, n209⟩, -, X209, ⟨Lc209, hQ209, l209, y209, z209⟩, st209⟩ := Jvm.LawKit.callS X208 hx (y := (⟨"com/example/causeline/causeline/core/FilingPastPinLaw", "in", "([JIIIJ)I"⟩ : MethodName)) hown (mvT hZ (hw _ (List.mem_of_getElem? (i := 97) rfl))) (mvT hZ (hw _ (List.mem_of_getElem? (i := 98) rfl))) (mvT hZ (hw _ (List.mem_of_getElem? (i := 3) rfl))) (mvT hZ (hw _ (List.mem_of_getElem? (i := 99) rfl))) (by decide) (backOf (W := 1) (rmIn3 l Z a0 hw [] b3 (Int32.ofNat dn) (3 : Int32) vq y14_0 y16_1 y16_2 y15_3 k3 T193.heap n0 Z193 c194) hZ (hw _ (List.mem_of_getElem? (i := 99) rfl)) (hw _ (List.mem_of_getElem? (i := 3) rfl)) (by decide) (by decide)) (g := (mkF m 255 #[.val (.long va_), .second, .val (.long vb_), .second, .val (.long vc_), .second, .val (.long ve_), .second, .val (.long vq), .second, .val (.int vctl), .val (.int (3 : Int32)), .val (.int (Int32.ofNat dn)), .val (.ref b3), .val (.ref b17), .val (.ref b43), .val (.int (Int32.ofNat (own_bs (own_g [y14_0, y16_1, y16_2, (0 : Int64)] vq) 4 (if dn = 3 then 0 else dn) (if dn = 3 then 0 else 3)))), .unset] [(.long vq), (.int (3 : Int32)), (.int (Int32.ofNat dn)), (.int (3 : Int32)), (.ref b3), (.int ((((Int32.ofNat dn) + (own_in0 b3 (Int32.ofNat dn) (3 : Int32) vq y14_0 y16_1 y16_2 y15_3)) + (own_in1 b3 (Int32.ofNat dn) (3 : Int32) vq y14_0 y16_1 y16_2 y15_3)) + (own_in2 b3 (Int32.ofNat dn) (3 : Int32) vq y14_0 y16_1 y16_2 y15_3)))])) rfl (by rw [hml]; rfl) (argsL := [(.ref b3), (.int (3 : Int32)), (.int (Int32.ofNat dn)), (.int (3 : Int32)), (.long vq)]) (rest := [(.int ((((Int32.ofNat dn) + (own_in0 b3 (Int32.ofNat dn) (3 : Int32) vq y14_0 y16_1 y16_2 y15_3)) + (own_in1 b3 (Int32.ofNat dn) (3 : Int32) vq y14_0 y16_1 y16_2 y15_3)) + (own_in2 b3 (Int32.ofNat dn) (3 : Int32) vq y14_0 y16_1 y16_2 y15_3)))]) (lenOf pd_7 rfl) rfl (by show 2 * 0 + _ ≤ _; exact Nat.le_of_eq rfl) (hb hby at_255) (fun _ _ => ⟨rfl, e208q, (by decide : 8 + 0 ≤ _), (by decide : 41 + 0 ≤ _)⟩)
      dsimp only [Pt.U, Pt.locs, Pt.cells, Pt.slots] at X209 l209 y209 z209 st209 hQ209
      obtain rfl : k209 = 8 := y209; obtain rfl : n209 = 41 := z209
      obtain ⟨rfl, N209q, e209q⟩ := hQ209
      have N209 : Fr n0 L209 := Eq.mpr (congrArg (Fr n0) l209) (Fr.app N208 N209q)
      obtain ⟨fs, hr, hrun, hended, hW, hsame⟩ := X209.leave (v := some (.int (1 : Int32))) (fun h => by rw [Bd.returns] at h; cases h) (hlocks := BodyLoose.notSynchronized Bd)
      refine ⟨_, _, pre204 _ ?_, hrun, hended, _, _, rfl, ?_, ⟨_, rfl⟩, hW, hsame.mono (by decide) (by decide)⟩
      ·
        show Steps p.tables e below (T193.setTop (mkF m 202 #[.val (.long va_), .second, .val (.long vb_), .second, .val (.long vc_), .second, .val (.long ve_), .second, .val (.long vq), .second, .val (.int vctl), .val (.int (3 : Int32)), .val (.int (Int32.ofNat dn)), .val (.ref b3), .val (.ref b17), .val (.ref b43), .val (.int (Int32.ofNat (own_bs (own_g [y14_0, y16_1, y16_2, (0 : Int64)] vq) 4 (if dn = 3 then 0 else dn) (if dn = 3 then 0 else 3)))), .unset] [(.int (3 : Int32)), (.int (Int32.ofNat dn))])) _
        refine XS.icmpNo X193.here hx rfl (hb hby at_202) rfl (tlt (hc205 : (Int32.ofNat dn) < (3 : Int32))).2.1 ?_
        show Steps p.tables e below (T193.setTop (mkF m 205 #[.val (.long va_), .second, .val (.long vb_), .second, .val (.long vc_), .second, .val (.long ve_), .second, .val (.long vq), .second, .val (.int vctl), .val (.int (3 : Int32)), .val (.int (Int32.ofNat dn)), .val (.ref b3), .val (.ref b17), .val (.ref b43), .val (.int (Int32.ofNat (own_bs (own_g [y14_0, y16_1, y16_2, (0 : Int64)] vq) 4 (if dn = 3 then 0 else dn) (if dn = 3 then 0 else 3)))), .unset] [])) _
        refine XS.iload X193.here hx rfl (hb hby at_205) rfl ?_
        show Steps p.tables e below (T193.setTop (mkF m 207 #[.val (.long va_), .second, .val (.long vb_), .second, .val (.long vc_), .second, .val (.long ve_), .second, .val (.long vq), .second, .val (.int vctl), .val (.int (3 : Int32)), .val (.int (Int32.ofNat dn)), .val (.ref b3), .val (.ref b17), .val (.ref b43), .val (.int (Int32.ofNat (own_bs (own_g [y14_0, y16_1, y16_2, (0 : Int64)] vq) 4 (if dn = 3 then 0 else dn) (if dn = 3 then 0 else 3)))), .unset] [(.int (Int32.ofNat dn))])) _
        refine XS.aload X193.here hx rfl (hb hby at_207) rfl rfl ?_
        show Steps p.tables e below (T193.setTop (mkF m 209 #[.val (.long va_), .second, .val (.long vb_), .second, .val (.long vc_), .second, .val (.long ve_), .second, .val (.long vq), .second, .val (.int vctl), .val (.int (3 : Int32)), .val (.int (Int32.ofNat dn)), .val (.ref b3), .val (.ref b17), .val (.ref b43), .val (.int (Int32.ofNat (own_bs (own_g [y14_0, y16_1, y16_2, (0 : Int64)] vq) 4 (if dn = 3 then 0 else dn) (if dn = 3 then 0 else 3)))), .unset] [(.ref b3), (.int (Int32.ofNat dn))])) _
        refine XS.iconst X193.here hx rfl (hb hby at_209) ?_
        show Steps p.tables e below (T193.setTop (mkF m 210 #[.val (.long va_), .second, .val (.long vb_), .second, .val (.long vc_), .second, .val (.long ve_), .second, .val (.long vq), .second, .val (.int vctl), .val (.int (3 : Int32)), .val (.int (Int32.ofNat dn)), .val (.ref b3), .val (.ref b17), .val (.ref b43), .val (.int (Int32.ofNat (own_bs (own_g [y14_0, y16_1, y16_2, (0 : Int64)] vq) 4 (if dn = 3 then 0 else dn) (if dn = 3 then 0 else 3)))), .unset] [(.int (0 : Int32)), (.ref b3), (.int (Int32.ofNat dn))])) _
        refine XS.iload X193.here hx rfl (hb hby at_210) rfl ?_
        show Steps p.tables e below (T193.setTop (mkF m 212 #[.val (.long va_), .second, .val (.long vb_), .second, .val (.long vc_), .second, .val (.long ve_), .second, .val (.long vq), .second, .val (.int vctl), .val (.int (3 : Int32)), .val (.int (Int32.ofNat dn)), .val (.ref b3), .val (.ref b17), .val (.ref b43), .val (.int (Int32.ofNat (own_bs (own_g [y14_0, y16_1, y16_2, (0 : Int64)] vq) 4 (if dn = 3 then 0 else dn) (if dn = 3 then 0 else 3)))), .unset] [(.int (Int32.ofNat dn)), (.int (0 : Int32)), (.ref b3), (.int (Int32.ofNat dn))])) _
        refine XS.iload X193.here hx rfl (hb hby at_212) rfl ?_
        show Steps p.tables e below (T193.setTop (mkF m 214 #[.val (.long va_), .second, .val (.long vb_), .second, .val (.long vc_), .second, .val (.long ve_), .second, .val (.long vq), .second, .val (.int vctl), .val (.int (3 : Int32)), .val (.int (Int32.ofNat dn)), .val (.ref b3), .val (.ref b17), .val (.ref b43), .val (.int (Int32.ofNat (own_bs (own_g [y14_0, y16_1, y16_2, (0 : Int64)] vq) 4 (if dn = 3 then 0 else dn) (if dn = 3 then 0 else 3)))), .unset] [(.int (3 : Int32)), (.int (Int32.ofNat dn)), (.int (0 : Int32)), (.ref b3), (.int (Int32.ofNat dn))])) _
        refine XS.lload X193.here hx rfl (hb hby at_214) rfl ?_
        show Steps p.tables e below (T193.setTop (mkF m 216 #[.val (.long va_), .second, .val (.long vb_), .second, .val (.long vc_), .second, .val (.long ve_), .second, .val (.long vq), .second, .val (.int vctl), .val (.int (3 : Int32)), .val (.int (Int32.ofNat dn)), .val (.ref b3), .val (.ref b17), .val (.ref b43), .val (.int (Int32.ofNat (own_bs (own_g [y14_0, y16_1, y16_2, (0 : Int64)] vq) 4 (if dn = 3 then 0 else dn) (if dn = 3 then 0 else 3)))), .unset] [(.long vq), (.int (3 : Int32)), (.int (Int32.ofNat dn)), (.int (0 : Int32)), (.ref b3), (.int (Int32.ofNat dn))])) _
        refine st206 _ ?_
        show Steps p.tables e below (T206.setTop (mkF m 219 #[.val (.long va_), .second, .val (.long vb_), .second, .val (.long vc_), .second, .val (.long ve_), .second, .val (.long vq), .second, .val (.int vctl), .val (.int (3 : Int32)), .val (.int (Int32.ofNat dn)), .val (.ref b3), .val (.ref b17), .val (.ref b43), .val (.int (Int32.ofNat (own_bs (own_g [y14_0, y16_1, y16_2, (0 : Int64)] vq) 4 (if dn = 3 then 0 else dn) (if dn = 3 then 0 else 3)))), .unset] [(.int (own_in0 b3 (Int32.ofNat dn) (3 : Int32) vq y14_0 y16_1 y16_2 y15_3)), (.int (Int32.ofNat dn))])) _
        refine XS.iadd X206.here hx rfl (hb hby at_219) rfl ?_
        show Steps p.tables e below (T206.setTop (mkF m 220 #[.val (.long va_), .second, .val (.long vb_), .second, .val (.long vc_), .second, .val (.long ve_), .second, .val (.long vq), .second, .val (.int vctl), .val (.int (3 : Int32)), .val (.int (Int32.ofNat dn)), .val (.ref b3), .val (.ref b17), .val (.ref b43), .val (.int (Int32.ofNat (own_bs (own_g [y14_0, y16_1, y16_2, (0 : Int64)] vq) 4 (if dn = 3 then 0 else dn) (if dn = 3 then 0 else 3)))), .unset] [(.int ((Int32.ofNat dn) + (own_in0 b3 (Int32.ofNat dn) (3 : Int32) vq y14_0 y16_1 y16_2 y15_3)))])) _
        refine XS.aload X206.here hx rfl (hb hby at_220) rfl rfl ?_
        show Steps p.tables e below (T206.setTop (mkF m 222 #[.val (.long va_), .second, .val (.long vb_), .second, .val (.long vc_), .second, .val (.long ve_), .second, .val (.long vq), .second, .val (.int vctl), .val (.int (3 : Int32)), .val (.int (Int32.ofNat dn)), .val (.ref b3), .val (.ref b17), .val (.ref b43), .val (.int (Int32.ofNat (own_bs (own_g [y14_0, y16_1, y16_2, (0 : Int64)] vq) 4 (if dn = 3 then 0 else dn) (if dn = 3 then 0 else 3)))), .unset] [(.ref b3), (.int ((Int32.ofNat dn) + (own_in0 b3 (Int32.ofNat dn) (3 : Int32) vq y14_0 y16_1 y16_2 y15_3)))])) _
        refine XS.iconst X206.here hx rfl (hb hby at_222) ?_
        show Steps p.tables e below (T206.setTop (mkF m 223 #[.val (.long va_), .second, .val (.long vb_), .second, .val (.long vc_), .second, .val (.long ve_), .second, .val (.long vq), .second, .val (.int vctl), .val (.int (3 : Int32)), .val (.int (Int32.ofNat dn)), .val (.ref b3), .val (.ref b17), .val (.ref b43), .val (.int (Int32.ofNat (own_bs (own_g [y14_0, y16_1, y16_2, (0 : Int64)] vq) 4 (if dn = 3 then 0 else dn) (if dn = 3 then 0 else 3)))), .unset] [(.int (1 : Int32)), (.ref b3), (.int ((Int32.ofNat dn) + (own_in0 b3 (Int32.ofNat dn) (3 : Int32) vq y14_0 y16_1 y16_2 y15_3)))])) _
        refine XS.iload X206.here hx rfl (hb hby at_223) rfl ?_
        show Steps p.tables e below (T206.setTop (mkF m 225 #[.val (.long va_), .second, .val (.long vb_), .second, .val (.long vc_), .second, .val (.long ve_), .second, .val (.long vq), .second, .val (.int vctl), .val (.int (3 : Int32)), .val (.int (Int32.ofNat dn)), .val (.ref b3), .val (.ref b17), .val (.ref b43), .val (.int (Int32.ofNat (own_bs (own_g [y14_0, y16_1, y16_2, (0 : Int64)] vq) 4 (if dn = 3 then 0 else dn) (if dn = 3 then 0 else 3)))), .unset] [(.int (Int32.ofNat dn)), (.int (1 : Int32)), (.ref b3), (.int ((Int32.ofNat dn) + (own_in0 b3 (Int32.ofNat dn) (3 : Int32) vq y14_0 y16_1 y16_2 y15_3)))])) _
        refine XS.iload X206.here hx rfl (hb hby at_225) rfl ?_
        show Steps p.tables e below (T206.setTop (mkF m 227 #[.val (.long va_), .second, .val (.long vb_), .second, .val (.long vc_), .second, .val (.long ve_), .second, .val (.long vq), .second, .val (.int vctl), .val (.int (3 : Int32)), .val (.int (Int32.ofNat dn)), .val (.ref b3), .val (.ref b17), .val (.ref b43), .val (.int (Int32.ofNat (own_bs (own_g [y14_0, y16_1, y16_2, (0 : Int64)] vq) 4 (if dn = 3 then 0 else dn) (if dn = 3 then 0 else 3)))), .unset] [(.int (3 : Int32)), (.int (Int32.ofNat dn)), (.int (1 : Int32)), (.ref b3), (.int ((Int32.ofNat dn) + (own_in0 b3 (Int32.ofNat dn) (3 : Int32) vq y14_0 y16_1 y16_2 y15_3)))])) _
        refine XS.lload X206.here hx rfl (hb hby at_227) rfl ?_
        show Steps p.tables e below (T206.setTop (mkF m 229 #[.val (.long va_), .second, .val (.long vb_), .second, .val (.long vc_), .second, .val (.long ve_), .second, .val (.long vq), .second, .val (.int vctl), .val (.int (3 : Int32)), .val (.int (Int32.ofNat dn)), .val (.ref b3), .val (.ref b17), .val (.ref b43), .val (.int (Int32.ofNat (own_bs (own_g [y14_0, y16_1, y16_2, (0 : Int64)] vq) 4 (if dn = 3 then 0 else dn) (if dn = 3 then 0 else 3)))), .unset] [(.long vq), (.int (3 : Int32)), (.int (Int32.ofNat dn)), (.int (1 : Int32)), (.ref b3), (.int ((Int32.ofNat dn) + (own_in0 b3 (Int32.ofNat dn) (3 : Int32) vq y14_0 y16_1 y16_2 y15_3)))])) _
        refine st207 _ ?_
        show Steps p.tables e below (T207.setTop (mkF m 232 #[.val (.long va_), .second, .val (.long vb_), .second, .val (.long vc_), .second, .val (.long ve_), .second, .val (.long vq), .second, .val (.int vctl), .val (.int (3 : Int32)), .val (.int (Int32.ofNat dn)), .val (.ref b3), .val (.ref b17), .val (.ref b43), .val (.int (Int32.ofNat (own_bs (own_g [y14_0, y16_1, y16_2, (0 : Int64)] vq) 4 (if dn = 3 then 0 else dn) (if dn = 3 then 0 else 3)))), .unset] [(.int (own_in1 b3 (Int32.ofNat dn) (3 : Int32) vq y14_0 y16_1 y16_2 y15_3)), (.int ((Int32.ofNat dn) + (own_in0 b3 (Int32.ofNat dn) (3 : Int32) vq y14_0 y16_1 y16_2 y15_3)))])) _
        refine XS.iadd X207.here hx rfl (hb hby at_232) rfl ?_
        show Steps p.tables e below (T207.setTop (mkF m 233 #[.val (.long va_), .second, .val (.long vb_), .second, .val (.long vc_), .second, .val (.long ve_), .second, .val (.long vq), .second, .val (.int vctl), .val (.int (3 : Int32)), .val (.int (Int32.ofNat dn)), .val (.ref b3), .val (.ref b17), .val (.ref b43), .val (.int (Int32.ofNat (own_bs (own_g [y14_0, y16_1, y16_2, (0 : Int64)] vq) 4 (if dn = 3 then 0 else dn) (if dn = 3 then 0 else 3)))), .unset] [(.int (((Int32.ofNat dn) + (own_in0 b3 (Int32.ofNat dn) (3 : Int32) vq y14_0 y16_1 y16_2 y15_3)) + (own_in1 b3 (Int32.ofNat dn) (3 : Int32) vq y14_0 y16_1 y16_2 y15_3)))])) _
        refine XS.aload X207.here hx rfl (hb hby at_233) rfl rfl ?_
        show Steps p.tables e below (T207.setTop (mkF m 235 #[.val (.long va_), .second, .val (.long vb_), .second, .val (.long vc_), .second, .val (.long ve_), .second, .val (.long vq), .second, .val (.int vctl), .val (.int (3 : Int32)), .val (.int (Int32.ofNat dn)), .val (.ref b3), .val (.ref b17), .val (.ref b43), .val (.int (Int32.ofNat (own_bs (own_g [y14_0, y16_1, y16_2, (0 : Int64)] vq) 4 (if dn = 3 then 0 else dn) (if dn = 3 then 0 else 3)))), .unset] [(.ref b3), (.int (((Int32.ofNat dn) + (own_in0 b3 (Int32.ofNat dn) (3 : Int32) vq y14_0 y16_1 y16_2 y15_3)) + (own_in1 b3 (Int32.ofNat dn) (3 : Int32) vq y14_0 y16_1 y16_2 y15_3)))])) _
        refine XS.iconst X207.here hx rfl (hb hby at_235) ?_
        show Steps p.tables e below (T207.setTop (mkF m 236 #[.val (.long va_), .second, .val (.long vb_), .second, .val (.long vc_), .second, .val (.long ve_), .second, .val (.long vq), .second, .val (.int vctl), .val (.int (3 : Int32)), .val (.int (Int32.ofNat dn)), .val (.ref b3), .val (.ref b17), .val (.ref b43), .val (.int (Int32.ofNat (own_bs (own_g [y14_0, y16_1, y16_2, (0 : Int64)] vq) 4 (if dn = 3 then 0 else dn) (if dn = 3 then 0 else 3)))), .unset] [(.int (2 : Int32)), (.ref b3), (.int (((Int32.ofNat dn) + (own_in0 b3 (Int32.ofNat dn) (3 : Int32) vq y14_0 y16_1 y16_2 y15_3)) + (own_in1 b3 (Int32.ofNat dn) (3 : Int32) vq y14_0 y16_1 y16_2 y15_3)))])) _
        refine XS.iload X207.here hx rfl (hb hby at_236) rfl ?_
        show Steps p.tables e below (T207.setTop (mkF m 238 #[.val (.long va_), .second, .val (.long vb_), .second, .val (.long vc_), .second, .val (.long ve_), .second, .val (.long vq), .second, .val (.int vctl), .val (.int (3 : Int32)), .val (.int (Int32.ofNat dn)), .val (.ref b3), .val (.ref b17), .val (.ref b43), .val (.int (Int32.ofNat (own_bs (own_g [y14_0, y16_1, y16_2, (0 : Int64)] vq) 4 (if dn = 3 then 0 else dn) (if dn = 3 then 0 else 3)))), .unset] [(.int (Int32.ofNat dn)), (.int (2 : Int32)), (.ref b3), (.int (((Int32.ofNat dn) + (own_in0 b3 (Int32.ofNat dn) (3 : Int32) vq y14_0 y16_1 y16_2 y15_3)) + (own_in1 b3 (Int32.ofNat dn) (3 : Int32) vq y14_0 y16_1 y16_2 y15_3)))])) _
        refine XS.iload X207.here hx rfl (hb hby at_238) rfl ?_
        show Steps p.tables e below (T207.setTop (mkF m 240 #[.val (.long va_), .second, .val (.long vb_), .second, .val (.long vc_), .second, .val (.long ve_), .second, .val (.long vq), .second, .val (.int vctl), .val (.int (3 : Int32)), .val (.int (Int32.ofNat dn)), .val (.ref b3), .val (.ref b17), .val (.ref b43), .val (.int (Int32.ofNat (own_bs (own_g [y14_0, y16_1, y16_2, (0 : Int64)] vq) 4 (if dn = 3 then 0 else dn) (if dn = 3 then 0 else 3)))), .unset] [(.int (3 : Int32)), (.int (Int32.ofNat dn)), (.int (2 : Int32)), (.ref b3), (.int (((Int32.ofNat dn) + (own_in0 b3 (Int32.ofNat dn) (3 : Int32) vq y14_0 y16_1 y16_2 y15_3)) + (own_in1 b3 (Int32.ofNat dn) (3 : Int32) vq y14_0 y16_1 y16_2 y15_3)))])) _
        refine XS.lload X207.here hx rfl (hb hby at_240) rfl ?_
        show Steps p.tables e below (T207.setTop (mkF m 242 #[.val (.long va_), .second, .val (.long vb_), .second, .val (.long vc_), .second, .val (.long ve_), .second, .val (.long vq), .second, .val (.int vctl), .val (.int (3 : Int32)), .val (.int (Int32.ofNat dn)), .val (.ref b3), .val (.ref b17), .val (.ref b43), .val (.int (Int32.ofNat (own_bs (own_g [y14_0, y16_1, y16_2, (0 : Int64)] vq) 4 (if dn = 3 then 0 else dn) (if dn = 3 then 0 else 3)))), .unset] [(.long vq), (.int (3 : Int32)), (.int (Int32.ofNat dn)), (.int (2 : Int32)), (.ref b3), (.int (((Int32.ofNat dn) + (own_in0 b3 (Int32.ofNat dn) (3 : Int32) vq y14_0 y16_1 y16_2 y15_3)) + (own_in1 b3 (Int32.ofNat dn) (3 : Int32) vq y14_0 y16_1 y16_2 y15_3)))])) _
        refine st208 _ ?_
        show Steps p.tables e below (T208.setTop (mkF m 245 #[.val (.long va_), .second, .val (.long vb_), .second, .val (.long vc_), .second, .val (.long ve_), .second, .val (.long vq), .second, .val (.int vctl), .val (.int (3 : Int32)), .val (.int (Int32.ofNat dn)), .val (.ref b3), .val (.ref b17), .val (.ref b43), .val (.int (Int32.ofNat (own_bs (own_g [y14_0, y16_1, y16_2, (0 : Int64)] vq) 4 (if dn = 3 then 0 else dn) (if dn = 3 then 0 else 3)))), .unset] [(.int (own_in2 b3 (Int32.ofNat dn) (3 : Int32) vq y14_0 y16_1 y16_2 y15_3)), (.int (((Int32.ofNat dn) + (own_in0 b3 (Int32.ofNat dn) (3 : Int32) vq y14_0 y16_1 y16_2 y15_3)) + (own_in1 b3 (Int32.ofNat dn) (3 : Int32) vq y14_0 y16_1 y16_2 y15_3)))])) _
        refine XS.iadd X208.here hx rfl (hb hby at_245) rfl ?_
        show Steps p.tables e below (T208.setTop (mkF m 246 #[.val (.long va_), .second, .val (.long vb_), .second, .val (.long vc_), .second, .val (.long ve_), .second, .val (.long vq), .second, .val (.int vctl), .val (.int (3 : Int32)), .val (.int (Int32.ofNat dn)), .val (.ref b3), .val (.ref b17), .val (.ref b43), .val (.int (Int32.ofNat (own_bs (own_g [y14_0, y16_1, y16_2, (0 : Int64)] vq) 4 (if dn = 3 then 0 else dn) (if dn = 3 then 0 else 3)))), .unset] [(.int ((((Int32.ofNat dn) + (own_in0 b3 (Int32.ofNat dn) (3 : Int32) vq y14_0 y16_1 y16_2 y15_3)) + (own_in1 b3 (Int32.ofNat dn) (3 : Int32) vq y14_0 y16_1 y16_2 y15_3)) + (own_in2 b3 (Int32.ofNat dn) (3 : Int32) vq y14_0 y16_1 y16_2 y15_3)))])) _
        refine XS.aload X208.here hx rfl (hb hby at_246) rfl rfl ?_
        show Steps p.tables e below (T208.setTop (mkF m 248 #[.val (.long va_), .second, .val (.long vb_), .second, .val (.long vc_), .second, .val (.long ve_), .second, .val (.long vq), .second, .val (.int vctl), .val (.int (3 : Int32)), .val (.int (Int32.ofNat dn)), .val (.ref b3), .val (.ref b17), .val (.ref b43), .val (.int (Int32.ofNat (own_bs (own_g [y14_0, y16_1, y16_2, (0 : Int64)] vq) 4 (if dn = 3 then 0 else dn) (if dn = 3 then 0 else 3)))), .unset] [(.ref b3), (.int ((((Int32.ofNat dn) + (own_in0 b3 (Int32.ofNat dn) (3 : Int32) vq y14_0 y16_1 y16_2 y15_3)) + (own_in1 b3 (Int32.ofNat dn) (3 : Int32) vq y14_0 y16_1 y16_2 y15_3)) + (own_in2 b3 (Int32.ofNat dn) (3 : Int32) vq y14_0 y16_1 y16_2 y15_3)))])) _
        refine XS.iconst X208.here hx rfl (hb hby at_248) ?_
        show Steps p.tables e below (T208.setTop (mkF m 249 #[.val (.long va_), .second, .val (.long vb_), .second, .val (.long vc_), .second, .val (.long ve_), .second, .val (.long vq), .second, .val (.int vctl), .val (.int (3 : Int32)), .val (.int (Int32.ofNat dn)), .val (.ref b3), .val (.ref b17), .val (.ref b43), .val (.int (Int32.ofNat (own_bs (own_g [y14_0, y16_1, y16_2, (0 : Int64)] vq) 4 (if dn = 3 then 0 else dn) (if dn = 3 then 0 else 3)))), .unset] [(.int (3 : Int32)), (.ref b3), (.int ((((Int32.ofNat dn) + (own_in0 b3 (Int32.ofNat dn) (3 : Int32) vq y14_0 y16_1 y16_2 y15_3)) + (own_in1 b3 (Int32.ofNat dn) (3 : Int32) vq y14_0 y16_1 y16_2 y15_3)) + (own_in2 b3 (Int32.ofNat dn) (3 : Int32) vq y14_0 y16_1 y16_2 y15_3)))])) _
        refine XS.iload X208.here hx rfl (hb hby at_249) rfl ?_
        show Steps p.tables e below (T208.setTop (mkF m 251 #[.val (.long va_), .second, .val (.long vb_), .second, .val (.long vc_), .second, .val (.long ve_), .second, .val (.long vq), .second, .val (.int vctl), .val (.int (3 : Int32)), .val (.int (Int32.ofNat dn)), .val (.ref b3), .val (.ref b17), .val (.ref b43), .val (.int (Int32.ofNat (own_bs (own_g [y14_0, y16_1, y16_2, (0 : Int64)] vq) 4 (if dn = 3 then 0 else dn) (if dn = 3 then 0 else 3)))), .unset] [(.int (Int32.ofNat dn)), (.int (3 : Int32)), (.ref b3), (.int ((((Int32.ofNat dn) + (own_in0 b3 (Int32.ofNat dn) (3 : Int32) vq y14_0 y16_1 y16_2 y15_3)) + (own_in1 b3 (Int32.ofNat dn) (3 : Int32) vq y14_0 y16_1 y16_2 y15_3)) + (own_in2 b3 (Int32.ofNat dn) (3 : Int32) vq y14_0 y16_1 y16_2 y15_3)))])) _
        refine XS.iload X208.here hx rfl (hb hby at_251) rfl ?_
        show Steps p.tables e below (T208.setTop (mkF m 253 #[.val (.long va_), .second, .val (.long vb_), .second, .val (.long vc_), .second, .val (.long ve_), .second, .val (.long vq), .second, .val (.int vctl), .val (.int (3 : Int32)), .val (.int (Int32.ofNat dn)), .val (.ref b3), .val (.ref b17), .val (.ref b43), .val (.int (Int32.ofNat (own_bs (own_g [y14_0, y16_1, y16_2, (0 : Int64)] vq) 4 (if dn = 3 then 0 else dn) (if dn = 3 then 0 else 3)))), .unset] [(.int (3 : Int32)), (.int (Int32.ofNat dn)), (.int (3 : Int32)), (.ref b3), (.int ((((Int32.ofNat dn) + (own_in0 b3 (Int32.ofNat dn) (3 : Int32) vq y14_0 y16_1 y16_2 y15_3)) + (own_in1 b3 (Int32.ofNat dn) (3 : Int32) vq y14_0 y16_1 y16_2 y15_3)) + (own_in2 b3 (Int32.ofNat dn) (3 : Int32) vq y14_0 y16_1 y16_2 y15_3)))])) _
        refine XS.lload X208.here hx rfl (hb hby at_253) rfl ?_
        show Steps p.tables e below (T208.setTop (mkF m 255 #[.val (.long va_), .second, .val (.long vb_), .second, .val (.long vc_), .second, .val (.long ve_), .second, .val (.long vq), .second, .val (.int vctl), .val (.int (3 : Int32)), .val (.int (Int32.ofNat dn)), .val (.ref b3), .val (.ref b17), .val (.ref b43), .val (.int (Int32.ofNat (own_bs (own_g [y14_0, y16_1, y16_2, (0 : Int64)] vq) 4 (if dn = 3 then 0 else dn) (if dn = 3 then 0 else 3)))), .unset] [(.long vq), (.int (3 : Int32)), (.int (Int32.ofNat dn)), (.int (3 : Int32)), (.ref b3), (.int ((((Int32.ofNat dn) + (own_in0 b3 (Int32.ofNat dn) (3 : Int32) vq y14_0 y16_1 y16_2 y15_3)) + (own_in1 b3 (Int32.ofNat dn) (3 : Int32) vq y14_0 y16_1 y16_2 y15_3)) + (own_in2 b3 (Int32.ofNat dn) (3 : Int32) vq y14_0 y16_1 y16_2 y15_3)))])) _
        refine st209 _ ?_
        show Steps p.tables e below (T209.setTop (mkF m 258 #[.val (.long va_), .second, .val (.long vb_), .second, .val (.long vc_), .second, .val (.long ve_), .second, .val (.long vq), .second, .val (.int vctl), .val (.int (3 : Int32)), .val (.int (Int32.ofNat dn)), .val (.ref b3), .val (.ref b17), .val (.ref b43), .val (.int (Int32.ofNat (own_bs (own_g [y14_0, y16_1, y16_2, (0 : Int64)] vq) 4 (if dn = 3 then 0 else dn) (if dn = 3 then 0 else 3)))), .unset] [(.int (own_in3 b3 (Int32.ofNat dn) (3 : Int32) vq y14_0 y16_1 y16_2 y15_3)), (.int ((((Int32.ofNat dn) + (own_in0 b3 (Int32.ofNat dn) (3 : Int32) vq y14_0 y16_1 y16_2 y15_3)) + (own_in1 b3 (Int32.ofNat dn) (3 : Int32) vq y14_0 y16_1 y16_2 y15_3)) + (own_in2 b3 (Int32.ofNat dn) (3 : Int32) vq y14_0 y16_1 y16_2 y15_3)))])) _
        refine XS.iadd X209.here hx rfl (hb hby at_258) rfl ?_
        show Steps p.tables e below (T209.setTop (mkF m 259 #[.val (.long va_), .second, .val (.long vb_), .second, .val (.long vc_), .second, .val (.long ve_), .second, .val (.long vq), .second, .val (.int vctl), .val (.int (3 : Int32)), .val (.int (Int32.ofNat dn)), .val (.ref b3), .val (.ref b17), .val (.ref b43), .val (.int (Int32.ofNat (own_bs (own_g [y14_0, y16_1, y16_2, (0 : Int64)] vq) 4 (if dn = 3 then 0 else dn) (if dn = 3 then 0 else 3)))), .unset] [(.int (((((Int32.ofNat dn) + (own_in0 b3 (Int32.ofNat dn) (3 : Int32) vq y14_0 y16_1 y16_2 y15_3)) + (own_in1 b3 (Int32.ofNat dn) (3 : Int32) vq y14_0 y16_1 y16_2 y15_3)) + (own_in2 b3 (Int32.ofNat dn) (3 : Int32) vq y14_0 y16_1 y16_2 y15_3)) + (own_in3 b3 (Int32.ofNat dn) (3 : Int32) vq y14_0 y16_1 y16_2 y15_3)))])) _
        refine XS.goto X209.here hx rfl (pc0 := 259) (pc' := 263) rfl (hb hby at_259) (by decide) (by decide) ?_
        show Steps p.tables e below (T209.setTop (mkF m 263 #[.val (.long va_), .second, .val (.long vb_), .second, .val (.long vc_), .second, .val (.long ve_), .second, .val (.long vq), .second, .val (.int vctl), .val (.int (3 : Int32)), .val (.int (Int32.ofNat dn)), .val (.ref b3), .val (.ref b17), .val (.ref b43), .val (.int (Int32.ofNat (own_bs (own_g [y14_0, y16_1, y16_2, (0 : Int64)] vq) 4 (if dn = 3 then 0 else dn) (if dn = 3 then 0 else 3)))), .unset] [(.int (((((Int32.ofNat dn) + (own_in0 b3 (Int32.ofNat dn) (3 : Int32) vq y14_0 y16_1 y16_2 y15_3)) + (own_in1 b3 (Int32.ofNat dn) (3 : Int32) vq y14_0 y16_1 y16_2 y15_3)) + (own_in2 b3 (Int32.ofNat dn) (3 : Int32) vq y14_0 y16_1 y16_2 y15_3)) + (own_in3 b3 (Int32.ofNat dn) (3 : Int32) vq y14_0 y16_1 y16_2 y15_3)))])) _
        refine XS.istore X209.here hx rfl (hb hby at_263) rfl (l' := #[.val (.long va_), .second, .val (.long vb_), .second, .val (.long vc_), .second, .val (.long ve_), .second, .val (.long vq), .second, .val (.int vctl), .val (.int (3 : Int32)), .val (.int (Int32.ofNat dn)), .val (.ref b3), .val (.ref b17), .val (.ref b43), .val (.int (Int32.ofNat (own_bs (own_g [y14_0, y16_1, y16_2, (0 : Int64)] vq) 4 (if dn = 3 then 0 else dn) (if dn = 3 then 0 else 3)))), .val (.int (((((Int32.ofNat dn) + (own_in0 b3 (Int32.ofNat dn) (3 : Int32) vq y14_0 y16_1 y16_2 y15_3)) + (own_in1 b3 (Int32.ofNat dn) (3 : Int32) vq y14_0 y16_1 y16_2 y15_3)) + (own_in2 b3 (Int32.ofNat dn) (3 : Int32) vq y14_0 y16_1 y16_2 y15_3)) + (own_in3 b3 (Int32.ofNat dn) (3 : Int32) vq y14_0 y16_1 y16_2 y15_3)))]) rfl ?_
        show Steps p.tables e below (T209.setTop (mkF m 265 #[.val (.long va_), .second, .val (.long vb_), .second, .val (.long vc_), .second, .val (.long ve_), .second, .val (.long vq), .second, .val (.int vctl), .val (.int (3 : Int32)), .val (.int (Int32.ofNat dn)), .val (.ref b3), .val (.ref b17), .val (.ref b43), .val (.int (Int32.ofNat (own_bs (own_g [y14_0, y16_1, y16_2, (0 : Int64)] vq) 4 (if dn = 3 then 0 else dn) (if dn = 3 then 0 else 3)))), .val (.int (((((Int32.ofNat dn) + (own_in0 b3 (Int32.ofNat dn) (3 : Int32) vq y14_0 y16_1 y16_2 y15_3)) + (own_in1 b3 (Int32.ofNat dn) (3 : Int32) vq y14_0 y16_1 y16_2 y15_3)) + (own_in2 b3 (Int32.ofNat dn) (3 : Int32) vq y14_0 y16_1 y16_2 y15_3)) + (own_in3 b3 (Int32.ofNat dn) (3 : Int32) vq y14_0 y16_1 y16_2 y15_3)))] [])) _
        refine XS.iload X209.here hx rfl (hb hby at_265) rfl ?_
        show Steps p.tables e below (T209.setTop (mkF m 267 #[.val (.long va_), .second, .val (.long vb_), .second, .val (.long vc_), .second, .val (.long ve_), .second, .val (.long vq), .second, .val (.int vctl), .val (.int (3 : Int32)), .val (.int (Int32.ofNat dn)), .val (.ref b3), .val (.ref b17), .val (.ref b43), .val (.int (Int32.ofNat (own_bs (own_g [y14_0, y16_1, y16_2, (0 : Int64)] vq) 4 (if dn = 3 then 0 else dn) (if dn = 3 then 0 else 3)))), .val (.int (((((Int32.ofNat dn) + (own_in0 b3 (Int32.ofNat dn) (3 : Int32) vq y14_0 y16_1 y16_2 y15_3)) + (own_in1 b3 (Int32.ofNat dn) (3 : Int32) vq y14_0 y16_1 y16_2 y15_3)) + (own_in2 b3 (Int32.ofNat dn) (3 : Int32) vq y14_0 y16_1 y16_2 y15_3)) + (own_in3 b3 (Int32.ofNat dn) (3 : Int32) vq y14_0 y16_1 y16_2 y15_3)))] [(.int (Int32.ofNat (own_bs (own_g [y14_0, y16_1, y16_2, (0 : Int64)] vq) 4 (if dn = 3 then 0 else dn) (if dn = 3 then 0 else 3))))])) _
        refine XS.iload X209.here hx rfl (hb hby at_267) rfl ?_
        show Steps p.tables e below (T209.setTop (mkF m 269 #[.val (.long va_), .second, .val (.long vb_), .second, .val (.long vc_), .second, .val (.long ve_), .second, .val (.long vq), .second, .val (.int vctl), .val (.int (3 : Int32)), .val (.int (Int32.ofNat dn)), .val (.ref b3), .val (.ref b17), .val (.ref b43), .val (.int (Int32.ofNat (own_bs (own_g [y14_0, y16_1, y16_2, (0 : Int64)] vq) 4 (if dn = 3 then 0 else dn) (if dn = 3 then 0 else 3)))), .val (.int (((((Int32.ofNat dn) + (own_in0 b3 (Int32.ofNat dn) (3 : Int32) vq y14_0 y16_1 y16_2 y15_3)) + (own_in1 b3 (Int32.ofNat dn) (3 : Int32) vq y14_0 y16_1 y16_2 y15_3)) + (own_in2 b3 (Int32.ofNat dn) (3 : Int32) vq y14_0 y16_1 y16_2 y15_3)) + (own_in3 b3 (Int32.ofNat dn) (3 : Int32) vq y14_0 y16_1 y16_2 y15_3)))] [(.int (((((Int32.ofNat dn) + (own_in0 b3 (Int32.ofNat dn) (3 : Int32) vq y14_0 y16_1 y16_2 y15_3)) + (own_in1 b3 (Int32.ofNat dn) (3 : Int32) vq y14_0 y16_1 y16_2 y15_3)) + (own_in2 b3 (Int32.ofNat dn) (3 : Int32) vq y14_0 y16_1 y16_2 y15_3)) + (own_in3 b3 (Int32.ofNat dn) (3 : Int32) vq y14_0 y16_1 y16_2 y15_3))), (.int (Int32.ofNat (own_bs (own_g [y14_0, y16_1, y16_2, (0 : Int64)] vq) 4 (if dn = 3 then 0 else dn) (if dn = 3 then 0 else 3))))])) _
        refine XS.icmpNo X209.here hx rfl (hb hby at_269) rfl (teq ((own_fin3t dn hdn hc205 s01 s12 s23) : (Int32.ofNat (own_bs (own_g [y14_0, y16_1, y16_2, (0 : Int64)] vq) 4 (if dn = 3 then 0 else dn) (if dn = 3 then 0 else 3))) = (((((Int32.ofNat dn) + (own_in0 b3 (Int32.ofNat dn) (3 : Int32) vq y14_0 y16_1 y16_2 y15_3)) + (own_in1 b3 (Int32.ofNat dn) (3 : Int32) vq y14_0 y16_1 y16_2 y15_3)) + (own_in2 b3 (Int32.ofNat dn) (3 : Int32) vq y14_0 y16_1 y16_2 y15_3)) + (own_in3 b3 (Int32.ofNat dn) (3 : Int32) vq y14_0 y16_1 y16_2 y15_3)))).2 ?_
        show Steps p.tables e below (T209.setTop (mkF m 272 #[.val (.long va_), .second, .val (.long vb_), .second, .val (.long vc_), .second, .val (.long ve_), .second, .val (.long vq), .second, .val (.int vctl), .val (.int (3 : Int32)), .val (.int (Int32.ofNat dn)), .val (.ref b3), .val (.ref b17), .val (.ref b43), .val (.int (Int32.ofNat (own_bs (own_g [y14_0, y16_1, y16_2, (0 : Int64)] vq) 4 (if dn = 3 then 0 else dn) (if dn = 3 then 0 else 3)))), .val (.int (((((Int32.ofNat dn) + (own_in0 b3 (Int32.ofNat dn) (3 : Int32) vq y14_0 y16_1 y16_2 y15_3)) + (own_in1 b3 (Int32.ofNat dn) (3 : Int32) vq y14_0 y16_1 y16_2 y15_3)) + (own_in2 b3 (Int32.ofNat dn) (3 : Int32) vq y14_0 y16_1 y16_2 y15_3)) + (own_in3 b3 (Int32.ofNat dn) (3 : Int32) vq y14_0 y16_1 y16_2 y15_3)))] [])) _
        refine XS.iconst X209.here hx rfl (hb hby at_272) ?_
        show Steps p.tables e below (T209.setTop (mkF m 273 #[.val (.long va_), .second, .val (.long vb_), .second, .val (.long vc_), .second, .val (.long ve_), .second, .val (.long vq), .second, .val (.int vctl), .val (.int (3 : Int32)), .val (.int (Int32.ofNat dn)), .val (.ref b3), .val (.ref b17), .val (.ref b43), .val (.int (Int32.ofNat (own_bs (own_g [y14_0, y16_1, y16_2, (0 : Int64)] vq) 4 (if dn = 3 then 0 else dn) (if dn = 3 then 0 else 3)))), .val (.int (((((Int32.ofNat dn) + (own_in0 b3 (Int32.ofNat dn) (3 : Int32) vq y14_0 y16_1 y16_2 y15_3)) + (own_in1 b3 (Int32.ofNat dn) (3 : Int32) vq y14_0 y16_1 y16_2 y15_3)) + (own_in2 b3 (Int32.ofNat dn) (3 : Int32) vq y14_0 y16_1 y16_2 y15_3)) + (own_in3 b3 (Int32.ofNat dn) (3 : Int32) vq y14_0 y16_1 y16_2 y15_3)))] [(.int (1 : Int32))])) _
        refine XS.goto X209.here hx rfl (pc0 := 273) (pc' := 277) rfl (hb hby at_273) (by decide) (by decide) ?_
        show Steps p.tables e below (T209.setTop (mkF m 277 #[.val (.long va_), .second, .val (.long vb_), .second, .val (.long vc_), .second, .val (.long ve_), .second, .val (.long vq), .second, .val (.int vctl), .val (.int (3 : Int32)), .val (.int (Int32.ofNat dn)), .val (.ref b3), .val (.ref b17), .val (.ref b43), .val (.int (Int32.ofNat (own_bs (own_g [y14_0, y16_1, y16_2, (0 : Int64)] vq) 4 (if dn = 3 then 0 else dn) (if dn = 3 then 0 else 3)))), .val (.int (((((Int32.ofNat dn) + (own_in0 b3 (Int32.ofNat dn) (3 : Int32) vq y14_0 y16_1 y16_2 y15_3)) + (own_in1 b3 (Int32.ofNat dn) (3 : Int32) vq y14_0 y16_1 y16_2 y15_3)) + (own_in2 b3 (Int32.ofNat dn) (3 : Int32) vq y14_0 y16_1 y16_2 y15_3)) + (own_in3 b3 (Int32.ofNat dn) (3 : Int32) vq y14_0 y16_1 y16_2 y15_3)))] [(.int (1 : Int32))])) _
        exact retN X209 hx (t := .boolean) Bd.returns (by simp) (hb hby at_277) hr
      ·
        show Q0 Z va_ vb_ vc_ ve_ vq vctl vN kN h0 n0 _ T209.heap _
        rw [e209q]
        exact ⟨rfl, N209⟩
    ·
      obtain ⟨fs, hr, hrun, hended, hW, hsame⟩ := X193.leave (v := some (.int (1 : Int32))) (fun h => by rw [Bd.returns] at h; cases h) (hlocks := BodyLoose.notSynchronized Bd)
      refine ⟨_, _, pre204 _ ?_, hrun, hended, _, _, rfl, ?_, ⟨_, rfl⟩, hW, hsame.mono (by decide) (by decide)⟩
      ·
        show Steps p.tables e below (T193.setTop (mkF m 202 #[.val (.long va_), .second, .val (.long vb_), .second, .val (.long vc_), .second, .val (.long ve_), .second, .val (.long vq), .second, .val (.int vctl), .val (.int (3 : Int32)), .val (.int (Int32.ofNat dn)), .val (.ref b3), .val (.ref b17), .val (.ref b43), .val (.int (Int32.ofNat (own_bs (own_g [y14_0, y16_1, y16_2, (0 : Int64)] vq) 4 (if dn = 3 then 0 else dn) (if dn = 3 then 0 else 3)))), .unset] [(.int (3 : Int32)), (.int (Int32.ofNat dn))])) _
        refine XS.icmpYes X193.here hx rfl (pc0 := 202) (pc' := 262) rfl (hb hby at_202) rfl (flt (hc205 : ¬ ((Int32.ofNat dn) < (3 : Int32)))).2.1 (by decide) (by decide) ?_
        show Steps p.tables e below (T193.setTop (mkF m 262 #[.val (.long va_), .second, .val (.long vb_), .second, .val (.long vc_), .second, .val (.long ve_), .second, .val (.long vq), .second, .val (.int vctl), .val (.int (3 : Int32)), .val (.int (Int32.ofNat dn)), .val (.ref b3), .val (.ref b17), .val (.ref b43), .val (.int (Int32.ofNat (own_bs (own_g [y14_0, y16_1, y16_2, (0 : Int64)] vq) 4 (if dn = 3 then 0 else dn) (if dn = 3 then 0 else 3)))), .unset] [])) _
        refine XS.iconst X193.here hx rfl (hb hby at_262) ?_
        show Steps p.tables e below (T193.setTop (mkF m 263 #[.val (.long va_), .second, .val (.long vb_), .second, .val (.long vc_), .second, .val (.long ve_), .second, .val (.long vq), .second, .val (.int vctl), .val (.int (3 : Int32)), .val (.int (Int32.ofNat dn)), .val (.ref b3), .val (.ref b17), .val (.ref b43), .val (.int (Int32.ofNat (own_bs (own_g [y14_0, y16_1, y16_2, (0 : Int64)] vq) 4 (if dn = 3 then 0 else dn) (if dn = 3 then 0 else 3)))), .unset] [(.int (0 : Int32))])) _
        refine XS.istore X193.here hx rfl (hb hby at_263) rfl (l' := #[.val (.long va_), .second, .val (.long vb_), .second, .val (.long vc_), .second, .val (.long ve_), .second, .val (.long vq), .second, .val (.int vctl), .val (.int (3 : Int32)), .val (.int (Int32.ofNat dn)), .val (.ref b3), .val (.ref b17), .val (.ref b43), .val (.int (Int32.ofNat (own_bs (own_g [y14_0, y16_1, y16_2, (0 : Int64)] vq) 4 (if dn = 3 then 0 else dn) (if dn = 3 then 0 else 3)))), .val (.int (0 : Int32))]) rfl ?_
        show Steps p.tables e below (T193.setTop (mkF m 265 #[.val (.long va_), .second, .val (.long vb_), .second, .val (.long vc_), .second, .val (.long ve_), .second, .val (.long vq), .second, .val (.int vctl), .val (.int (3 : Int32)), .val (.int (Int32.ofNat dn)), .val (.ref b3), .val (.ref b17), .val (.ref b43), .val (.int (Int32.ofNat (own_bs (own_g [y14_0, y16_1, y16_2, (0 : Int64)] vq) 4 (if dn = 3 then 0 else dn) (if dn = 3 then 0 else 3)))), .val (.int (0 : Int32))] [])) _
        refine XS.iload X193.here hx rfl (hb hby at_265) rfl ?_
        show Steps p.tables e below (T193.setTop (mkF m 267 #[.val (.long va_), .second, .val (.long vb_), .second, .val (.long vc_), .second, .val (.long ve_), .second, .val (.long vq), .second, .val (.int vctl), .val (.int (3 : Int32)), .val (.int (Int32.ofNat dn)), .val (.ref b3), .val (.ref b17), .val (.ref b43), .val (.int (Int32.ofNat (own_bs (own_g [y14_0, y16_1, y16_2, (0 : Int64)] vq) 4 (if dn = 3 then 0 else dn) (if dn = 3 then 0 else 3)))), .val (.int (0 : Int32))] [(.int (Int32.ofNat (own_bs (own_g [y14_0, y16_1, y16_2, (0 : Int64)] vq) 4 (if dn = 3 then 0 else dn) (if dn = 3 then 0 else 3))))])) _
        refine XS.iload X193.here hx rfl (hb hby at_267) rfl ?_
        show Steps p.tables e below (T193.setTop (mkF m 269 #[.val (.long va_), .second, .val (.long vb_), .second, .val (.long vc_), .second, .val (.long ve_), .second, .val (.long vq), .second, .val (.int vctl), .val (.int (3 : Int32)), .val (.int (Int32.ofNat dn)), .val (.ref b3), .val (.ref b17), .val (.ref b43), .val (.int (Int32.ofNat (own_bs (own_g [y14_0, y16_1, y16_2, (0 : Int64)] vq) 4 (if dn = 3 then 0 else dn) (if dn = 3 then 0 else 3)))), .val (.int (0 : Int32))] [(.int (0 : Int32)), (.int (Int32.ofNat (own_bs (own_g [y14_0, y16_1, y16_2, (0 : Int64)] vq) 4 (if dn = 3 then 0 else dn) (if dn = 3 then 0 else 3))))])) _
        refine XS.icmpNo X193.here hx rfl (hb hby at_269) rfl (teq ((own_fin3f dn hdn hc205 s01 s12 s23) : (Int32.ofNat (own_bs (own_g [y14_0, y16_1, y16_2, (0 : Int64)] vq) 4 (if dn = 3 then 0 else dn) (if dn = 3 then 0 else 3))) = (0 : Int32))).2 ?_
        show Steps p.tables e below (T193.setTop (mkF m 272 #[.val (.long va_), .second, .val (.long vb_), .second, .val (.long vc_), .second, .val (.long ve_), .second, .val (.long vq), .second, .val (.int vctl), .val (.int (3 : Int32)), .val (.int (Int32.ofNat dn)), .val (.ref b3), .val (.ref b17), .val (.ref b43), .val (.int (Int32.ofNat (own_bs (own_g [y14_0, y16_1, y16_2, (0 : Int64)] vq) 4 (if dn = 3 then 0 else dn) (if dn = 3 then 0 else 3)))), .val (.int (0 : Int32))] [])) _
        refine XS.iconst X193.here hx rfl (hb hby at_272) ?_
        show Steps p.tables e below (T193.setTop (mkF m 273 #[.val (.long va_), .second, .val (.long vb_), .second, .val (.long vc_), .second, .val (.long ve_), .second, .val (.long vq), .second, .val (.int vctl), .val (.int (3 : Int32)), .val (.int (Int32.ofNat dn)), .val (.ref b3), .val (.ref b17), .val (.ref b43), .val (.int (Int32.ofNat (own_bs (own_g [y14_0, y16_1, y16_2, (0 : Int64)] vq) 4 (if dn = 3 then 0 else dn) (if dn = 3 then 0 else 3)))), .val (.int (0 : Int32))] [(.int (1 : Int32))])) _
        refine XS.goto X193.here hx rfl (pc0 := 273) (pc' := 277) rfl (hb hby at_273) (by decide) (by decide) ?_
        show Steps p.tables e below (T193.setTop (mkF m 277 #[.val (.long va_), .second, .val (.long vb_), .second, .val (.long vc_), .second, .val (.long ve_), .second, .val (.long vq), .second, .val (.int vctl), .val (.int (3 : Int32)), .val (.int (Int32.ofNat dn)), .val (.ref b3), .val (.ref b17), .val (.ref b43), .val (.int (Int32.ofNat (own_bs (own_g [y14_0, y16_1, y16_2, (0 : Int64)] vq) 4 (if dn = 3 then 0 else dn) (if dn = 3 then 0 else 3)))), .val (.int (0 : Int32))] [(.int (1 : Int32))])) _
        exact retN X193 hx (t := .boolean) Bd.returns (by simp) (hb hby at_277) hr
      ·
        show Q0 Z va_ vb_ vc_ ve_ vq vctl vN kN h0 n0 _ T193.heap _
        exact ⟨rfl, N193⟩
  ·
    obtain ⟨dn, hdn, rfl⟩ := own_dn4 hdd
    obtain ⟨cl210, Ar210, q210, S210, NN210, HH210, GG210⟩ := id c55
    have hin210 : ¬ ((0 : Int32) < 0 ∨ cl210.slots.size ≤ ((0 : Int32)).toNatClampNeg) := inb_of S210 ⟨by decide, by decide⟩
    have hat210 : cl210.slots[((0 : Int32)).toNatClampNeg]? = some (.long y14_0) := HH210.at hin210 rfl
    obtain ⟨cq211, kq211, q211a, q211b, q211c⟩ := isOf hZ rfl c57
    obtain ⟨_, _, ⟨T211, L211, k211, n211⟩, -, X211, ⟨Lc211, hQ211, l211, y211, z211⟩, st211⟩ := X54.virtualBack hx (y := (⟨"com/example/causeline/causeline/core/Filing", "add", "(JLcom/example/causeline/causeline/core/Waiting;)V"⟩ : MethodName)) (z := (⟨"com/example/causeline/causeline/core/Filing", "add", "(JLcom/example/causeline/causeline/core/Waiting;)V"⟩ : MethodName)) hown (mvT hZ (hw _ (List.mem_of_getElem? (i := 61) rfl))) (mvT hZ (hw _ (List.mem_of_getElem? (i := 62) rfl))) (notFace_of_selects (args := #[]) (mvT hZ (hw _ (List.mem_of_getElem? (i := 64) rfl)))) (mvT hZ (hw _ (List.mem_of_getElem? (i := 64) rfl))) (mvT hZ (hw _ (List.mem_of_getElem? (i := 63) rfl))) (by decide) (backOf (W := 0) (rmAdd0 l Z a0 hw [] b17 y14_0 b43 vN kN (7 : Int64) T54.heap n0 Z54 c57 c58 c59 c60 c61 (VN.keep K54 nin0) f54_0 g_b17 (Ne.symm (Nat.ne_of_lt (Nat.lt_of_lt_of_le VN.lt sz_b17))) ne46) hZ (hw _ (List.mem_of_getElem? (i := 65) rfl)) (hw _ (List.mem_of_getElem? (i := 7) rfl)) (by decide) (by decide)) q211a q211c (g := (mkF m 127 #[.val (.long va_), .second, .val (.long vb_), .second, .val (.long vc_), .second, .val (.long ve_), .second, .val (.long vq), .second, .val (.int vctl), .val (.int (4 : Int32)), .val (.int (Int32.ofNat dn)), .val (.ref b3), .val (.ref b17), .val (.ref b43), .unset, .unset] [(.ref b43), (.long y14_0), (.ref b17)])) rfl (by rw [hml]; rfl) (Steps.refl _) (argsL := [(.long y14_0), (.ref b43)]) (rest := []) (lenOf pd_8 rfl) rfl (by show 2 * 0 + _ ≤ _; exact Nat.le_of_eq rfl) (hb hby at_127) (fun _ _ => ⟨rfl, rfl, (by decide : 6 + 2 ≤ _), (by decide : 33 + 8 ≤ _)⟩)
    dsimp only [Pt.U, Pt.locs, Pt.cells, Pt.slots] at X211 l211 y211 z211 st211 hQ211
    obtain rfl : k211 = 8 := y211; obtain rfl : n211 = 41 := z211
    obtain ⟨rfl, N211q, K211q, ⟨vn211, kn211, vo211, ko211, szn211, szo211, gn211, go211, nno211, fa211_0, fa211_1, fa211_2, fa211_3, fa211_4, fa211_5, fa211_6⟩⟩ := hQ211
    have N211 : Fr n0 L211 := Eq.mpr (congrArg (Fr n0) l211) (Fr.app N54 N211q)
    have Z211 : n0 ≤ T211.heap.size := Nat.le_trans Z54 K211q.1
    have c212 : Arv Z T211.heap b3 k3 .long (4 : Int32) [(.long y14_0), (.long y16_1), (.long y16_2), (.long y15_3)] (.long (0 : Int64)) := c55.keep K211q (ninS ne18 nin0)
    have c213 : Exa Z T211.heap b20 "com/example/causeline/causeline/core/CopyTable" := c56.keep K211q
    have c214 : Exa Z T211.heap b17 "com/example/causeline/causeline/core/Filing" := c57.keep K211q
    have c215 : Exa Z T211.heap b43 "com/example/causeline/causeline/core/Waiting" := c62.keep K211q
    have c216 : Fld Z T211.heap b43 "com/example/causeline/causeline/core/Waiting" "order" "J" (.long (7 : Int64)) := f54_0.keep K211q (ninS (Ne.symm ne46) nin0)
    have K211 : Keep h0 T211.heap [] := K54.trans K211q (allS (Or.inr sz_b17) all0)
    have nevn211_b3 : b3 ≠ vn211 := Nat.ne_of_lt (Nat.lt_of_lt_of_le c55.lt szn211)
    have nevo211_b3 : b3 ≠ vo211 := Nat.ne_of_lt (Nat.lt_of_lt_of_le c55.lt szo211)
    have nevn211_b20 : b20 ≠ vn211 := Nat.ne_of_lt (Nat.lt_of_lt_of_le c56.lt szn211)
    have nevo211_b20 : b20 ≠ vo211 := Nat.ne_of_lt (Nat.lt_of_lt_of_le c56.lt szo211)
    have nevn211_b17 : b17 ≠ vn211 := Nat.ne_of_lt (Nat.lt_of_lt_of_le c61.lt szn211)
    have nevo211_b17 : b17 ≠ vo211 := Nat.ne_of_lt (Nat.lt_of_lt_of_le c61.lt szo211)
    have nevn211_b43 : b43 ≠ vn211 := Nat.ne_of_lt (Nat.lt_of_lt_of_le f54_0.lt szn211)
    have nevo211_b43 : b43 ≠ vo211 := Nat.ne_of_lt (Nat.lt_of_lt_of_le f54_0.lt szo211)
    have g_vn211 := gn211
    have sz_vn211 : h0.size ≤ vn211 := Nat.le_trans K54.1 szn211
    have g_vo211 := go211
    have sz_vo211 : h0.size ≤ vo211 := Nat.le_trans K54.1 szo211
    obtain ⟨cl217, Ar217, q217, S217, NN217, HH217, GG217⟩ := id c212
    have hin217 : ¬ ((1 : Int32) < 0 ∨ cl217.slots.size ≤ ((1 : Int32)).toNatClampNeg) := inb_of S217 ⟨by decide, by decide⟩
    have hat217 : cl217.slots[((1 : Int32)).toNatClampNeg]? = some (.long y16_1) := HH217.at hin217 rfl
    obtain ⟨cq218, kq218, q218a, q218b, q218c⟩ := isOf hZ rfl fa211_0
    obtain ⟨_, _, ⟨T218, L218, k218, n218⟩, -, X218, ⟨Lc218, hQ218, l218, y218, z218⟩, st218⟩ := X211.virtualBack hx (y := (⟨"com/example/causeline/causeline/core/Filing", "add", "(JLcom/example/causeline/causeline/core/Waiting;)V"⟩ : MethodName)) (z := (⟨"com/example/causeline/causeline/core/Filing", "add", "(JLcom/example/causeline/causeline/core/Waiting;)V"⟩ : MethodName)) hown (mvT hZ (hw _ (List.mem_of_getElem? (i := 61) rfl))) (mvT hZ (hw _ (List.mem_of_getElem? (i := 62) rfl))) (notFace_of_selects (args := #[]) (mvT hZ (hw _ (List.mem_of_getElem? (i := 64) rfl)))) (mvT hZ (hw _ (List.mem_of_getElem? (i := 64) rfl))) (mvT hZ (hw _ (List.mem_of_getElem? (i := 63) rfl))) (by decide) (backOf (W := 0) (rmAdd1 l Z a0 hw [] b17 y16_1 b43 vn211 kn211 vo211 ko211 (7 : Int64) y14_0 T211.heap n0 Z211 fa211_0 fa211_1 fa211_2 fa211_3 fa211_4 fa211_5 fa211_6 c216 g_b17 g_vn211 g_vo211 nevn211_b17 nevo211_b17 nno211 ne46 nevn211_b43 nevo211_b43 s01) hZ (hw _ (List.mem_of_getElem? (i := 65) rfl)) (hw _ (List.mem_of_getElem? (i := 7) rfl)) (by decide) (by decide)) q218a q218c (g := (mkF m 144 #[.val (.long va_), .second, .val (.long vb_), .second, .val (.long vc_), .second, .val (.long ve_), .second, .val (.long vq), .second, .val (.int vctl), .val (.int (4 : Int32)), .val (.int (Int32.ofNat dn)), .val (.ref b3), .val (.ref b17), .val (.ref b43), .unset, .unset] [(.ref b43), (.long y16_1), (.ref b17)])) rfl (by rw [hml]; rfl) (Steps.refl _) (argsL := [(.long y16_1), (.ref b43)]) (rest := []) (lenOf pd_8 rfl) rfl (by show 2 * 0 + _ ≤ _; exact Nat.le_of_eq rfl) (hb hby at_144) (fun _ _ => ⟨rfl, rfl, (by decide : 8 + 0 ≤ _), (by decide : 41 + 0 ≤ _)⟩)
    dsimp only [Pt.U, Pt.locs, Pt.cells, Pt.slots] at X218 l218 y218 z218 st218 hQ218
    obtain rfl : k218 = 8 := y218; obtain rfl : n218 = 41 := z218
    obtain ⟨rfl, N218q, K218q, f218_0, f218_1, f218_2, f218_3, f218_4, f218_5, f218_6⟩ := hQ218
    have N218 : Fr n0 L218 := Eq.mpr (congrArg (Fr n0) l218) (Fr.app N211 N218q)
    have Z218 : n0 ≤ T218.heap.size := Nat.le_trans Z211 K218q.1
    have c219 : Arv Z T218.heap b3 k3 .long (4 : Int32) [(.long y14_0), (.long y16_1), (.long y16_2), (.long y15_3)] (.long (0 : Int64)) := c212.keep K218q (ninS ne18 (ninS nevn211_b3 (ninS nevo211_b3 nin0)))
    have c220 : Exa Z T218.heap b20 "com/example/causeline/causeline/core/CopyTable" := c213.keep K218q
    have c221 : Exa Z T218.heap b43 "com/example/causeline/causeline/core/Waiting" := c215.keep K218q
    have c222 : Fld Z T218.heap b43 "com/example/causeline/causeline/core/Waiting" "order" "J" (.long (7 : Int64)) := c216.keep K218q (ninS (Ne.symm ne46) (ninS nevn211_b43 (ninS nevo211_b43 nin0)))
    have c223 : Exa Z T218.heap b17 "com/example/causeline/causeline/core/Filing" := fa211_0.keep K218q
    have K218 : Keep h0 T218.heap [] := K211.trans K218q (allS (Or.inr sz_b17) (allS (Or.inr sz_vn211) (allS (Or.inr sz_vo211) all0)))
    obtain ⟨cl224, Ar224, q224, S224, NN224, HH224, GG224⟩ := id c219
    have hin224 : ¬ ((2 : Int32) < 0 ∨ cl224.slots.size ≤ ((2 : Int32)).toNatClampNeg) := inb_of S224 ⟨by decide, by decide⟩
    have hat224 : cl224.slots[((2 : Int32)).toNatClampNeg]? = some (.long y16_2) := HH224.at hin224 rfl
    obtain ⟨cq225, kq225, q225a, q225b, q225c⟩ := isOf hZ rfl f218_0
    obtain ⟨_, _, ⟨T225, L225, k225, n225⟩, -, X225, ⟨Lc225, hQ225, l225, y225, z225⟩, st225⟩ := X218.virtualBack hx (y := (⟨"com/example/causeline/causeline/core/Filing", "add", "(JLcom/example/causeline/causeline/core/Waiting;)V"⟩ : MethodName)) (z := (⟨"com/example/causeline/causeline/core/Filing", "add", "(JLcom/example/causeline/causeline/core/Waiting;)V"⟩ : MethodName)) hown (mvT hZ (hw _ (List.mem_of_getElem? (i := 61) rfl))) (mvT hZ (hw _ (List.mem_of_getElem? (i := 62) rfl))) (notFace_of_selects (args := #[]) (mvT hZ (hw _ (List.mem_of_getElem? (i := 64) rfl)))) (mvT hZ (hw _ (List.mem_of_getElem? (i := 64) rfl))) (mvT hZ (hw _ (List.mem_of_getElem? (i := 63) rfl))) (by decide) (backOf (W := 0) (rmAdd2 l Z a0 hw [] b17 y16_2 b43 vn211 kn211 vo211 ko211 (7 : Int64) y14_0 y16_1 T218.heap n0 Z218 f218_0 f218_1 f218_2 f218_3 f218_4 f218_5 f218_6 c222 g_b17 g_vn211 g_vo211 nevn211_b17 nevo211_b17 nno211 ne46 nevn211_b43 nevo211_b43 s12) hZ (hw _ (List.mem_of_getElem? (i := 65) rfl)) (hw _ (List.mem_of_getElem? (i := 7) rfl)) (by decide) (by decide)) q225a q225c (g := (mkF m 161 #[.val (.long va_), .second, .val (.long vb_), .second, .val (.long vc_), .second, .val (.long ve_), .second, .val (.long vq), .second, .val (.int vctl), .val (.int (4 : Int32)), .val (.int (Int32.ofNat dn)), .val (.ref b3), .val (.ref b17), .val (.ref b43), .unset, .unset] [(.ref b43), (.long y16_2), (.ref b17)])) rfl (by rw [hml]; rfl) (Steps.refl _) (argsL := [(.long y16_2), (.ref b43)]) (rest := []) (lenOf pd_8 rfl) rfl (by show 2 * 0 + _ ≤ _; exact Nat.le_of_eq rfl) (hb hby at_161) (fun _ _ => ⟨rfl, rfl, (by decide : 8 + 0 ≤ _), (by decide : 41 + 0 ≤ _)⟩)
    dsimp only [Pt.U, Pt.locs, Pt.cells, Pt.slots] at X225 l225 y225 z225 st225 hQ225
    obtain rfl : k225 = 8 := y225; obtain rfl : n225 = 41 := z225
    obtain ⟨rfl, N225q, K225q, f225_0, f225_1, f225_2, f225_3, f225_4, f225_5, f225_6⟩ := hQ225
    have N225 : Fr n0 L225 := Eq.mpr (congrArg (Fr n0) l225) (Fr.app N218 N225q)
    have Z225 : n0 ≤ T225.heap.size := Nat.le_trans Z218 K225q.1
    have c226 : Arv Z T225.heap b3 k3 .long (4 : Int32) [(.long y14_0), (.long y16_1), (.long y16_2), (.long y15_3)] (.long (0 : Int64)) := c219.keep K225q (ninS ne18 (ninS nevn211_b3 (ninS nevo211_b3 nin0)))
    have c227 : Exa Z T225.heap b20 "com/example/causeline/causeline/core/CopyTable" := c220.keep K225q
    have c228 : Exa Z T225.heap b43 "com/example/causeline/causeline/core/Waiting" := c221.keep K225q
    have c229 : Fld Z T225.heap b43 "com/example/causeline/causeline/core/Waiting" "order" "J" (.long (7 : Int64)) := c222.keep K225q (ninS (Ne.symm ne46) (ninS nevn211_b43 (ninS nevo211_b43 nin0)))
    have c230 : Exa Z T225.heap b17 "com/example/causeline/causeline/core/Filing" := f218_0.keep K225q
    have K225 : Keep h0 T225.heap [] := K218.trans K225q (allS (Or.inr sz_b17) (allS (Or.inr sz_vn211) (allS (Or.inr sz_vo211) all0)))
    obtain ⟨cl231, Ar231, q231, S231, NN231, HH231, GG231⟩ := id c226
    have hin231 : ¬ ((3 : Int32) < 0 ∨ cl231.slots.size ≤ ((3 : Int32)).toNatClampNeg) := inb_of S231 ⟨by decide, by decide⟩
    have hat231 : cl231.slots[((3 : Int32)).toNatClampNeg]? = some (.long y15_3) := HH231.at hin231 rfl
    obtain ⟨cq232, kq232, q232a, q232b, q232c⟩ := isOf hZ rfl f225_0
    obtain ⟨_, _, ⟨T232, L232, k232, n232⟩, -, X232, ⟨Lc232, hQ232, l232, y232, z232⟩, st232⟩ := X225.virtualBack hx (y := (⟨"com/example/causeline/causeline/core/Filing", "add", "(JLcom/example/causeline/causeline/core/Waiting;)V"⟩ : MethodName)) (z := (⟨"com/example/causeline/causeline/core/Filing", "add", "(JLcom/example/causeline/causeline/core/Waiting;)V"⟩ : MethodName)) hown (mvT hZ (hw _ (List.mem_of_getElem? (i := 61) rfl))) (mvT hZ (hw _ (List.mem_of_getElem? (i := 62) rfl))) (notFace_of_selects (args := #[]) (mvT hZ (hw _ (List.mem_of_getElem? (i := 64) rfl)))) (mvT hZ (hw _ (List.mem_of_getElem? (i := 64) rfl))) (mvT hZ (hw _ (List.mem_of_getElem? (i := 63) rfl))) (by decide) (backOf (W := 0) (rmAdd3 l Z a0 hw [] b17 y15_3 b43 vn211 kn211 vo211 ko211 (7 : Int64) y14_0 y16_1 y16_2 T225.heap n0 Z225 f225_0 f225_1 f225_2 f225_3 f225_4 f225_5 f225_6 c229 g_b17 g_vn211 g_vo211 nevn211_b17 nevo211_b17 nno211 ne46 nevn211_b43 nevo211_b43 s23) hZ (hw _ (List.mem_of_getElem? (i := 65) rfl)) (hw _ (List.mem_of_getElem? (i := 7) rfl)) (by decide) (by decide)) q232a q232c (g := (mkF m 178 #[.val (.long va_), .second, .val (.long vb_), .second, .val (.long vc_), .second, .val (.long ve_), .second, .val (.long vq), .second, .val (.int vctl), .val (.int (4 : Int32)), .val (.int (Int32.ofNat dn)), .val (.ref b3), .val (.ref b17), .val (.ref b43), .unset, .unset] [(.ref b43), (.long y15_3), (.ref b17)])) rfl (by rw [hml]; rfl) (Steps.refl _) (argsL := [(.long y15_3), (.ref b43)]) (rest := []) (lenOf pd_8 rfl) rfl (by show 2 * 0 + _ ≤ _; exact Nat.le_of_eq rfl) (hb hby at_178) (fun _ _ => ⟨rfl, rfl, (by decide : 8 + 0 ≤ _), (by decide : 41 + 0 ≤ _)⟩)
    dsimp only [Pt.U, Pt.locs, Pt.cells, Pt.slots] at X232 l232 y232 z232 st232 hQ232
    obtain rfl : k232 = 8 := y232; obtain rfl : n232 = 41 := z232
    obtain ⟨rfl, N232q, K232q, f232_0, f232_1, f232_2, f232_3, f232_4, f232_5, f232_6⟩ := hQ232
    have N232 : Fr n0 L232 := Eq.mpr (congrArg (Fr n0) l232) (Fr.app N225 N232q)
    have Z232 : n0 ≤ T232.heap.size := Nat.le_trans Z225 K232q.1
    have c233 : Arv Z T232.heap b3 k3 .long (4 : Int32) [(.long y14_0), (.long y16_1), (.long y16_2), (.long y15_3)] (.long (0 : Int64)) := c226.keep K232q (ninS ne18 (ninS nevn211_b3 (ninS nevo211_b3 nin0)))
    have c234 : Exa Z T232.heap b20 "com/example/causeline/causeline/core/CopyTable" := c227.keep K232q
    have c235 : Exa Z T232.heap b43 "com/example/causeline/causeline/core/Waiting" := c228.keep K232q
    have c236 : Fld Z T232.heap b43 "com/example/causeline/causeline/core/Waiting" "order" "J" (.long (7 : Int64)) := c229.keep K232q (ninS (Ne.symm ne46) (ninS nevn211_b43 (ninS nevo211_b43 nin0)))
    have c237 : Exa Z T232.heap b17 "com/example/causeline/causeline/core/Filing" := f225_0.keep K232q
    have K232 : Keep h0 T232.heap [] := K225.trans K232q (allS (Or.inr sz_b17) (allS (Or.inr sz_vn211) (allS (Or.inr sz_vo211) all0)))
    obtain ⟨cq238, kq238, q238a, q238b, q238c⟩ := isOf hZ rfl f232_0
    obtain ⟨_, _, ⟨T238, L238, k238, n238⟩, -, X238, ⟨Lc238, hQ238, l238, y238, z238⟩, st238⟩ := X232.virtualBack hx (y := (⟨"com/example/causeline/causeline/core/Filing", "removeBefore", "(I)I"⟩ : MethodName)) (z := (⟨"com/example/causeline/causeline/core/Filing", "removeBefore", "(I)I"⟩ : MethodName)) hown (mvT hZ (hw _ (List.mem_of_getElem? (i := 83) rfl))) (mvT hZ (hw _ (List.mem_of_getElem? (i := 84) rfl))) (notFace_of_selects (args := #[]) (mvT hZ (hw _ (List.mem_of_getElem? (i := 86) rfl)))) (mvT hZ (hw _ (List.mem_of_getElem? (i := 86) rfl))) (mvT hZ (hw _ (List.mem_of_getElem? (i := 85) rfl))) (by decide) (backOf (W := 0) (rm9 l Z a0 hw [] b17 (Int32.ofNat dn) vn211 (0 : Int32) (4 : Int32) T232.heap n0 Z232 f232_0 f232_1 f232_3 f232_4 g_b17) hZ (hw _ (List.mem_of_getElem? (i := 87) rfl)) (hw _ (List.mem_of_getElem? (i := 7) rfl)) (by decide) (by decide)) q238a q238c (g := (mkF m 185 #[.val (.long va_), .second, .val (.long vb_), .second, .val (.long vc_), .second, .val (.long ve_), .second, .val (.long vq), .second, .val (.int vctl), .val (.int (4 : Int32)), .val (.int (Int32.ofNat dn)), .val (.ref b3), .val (.ref b17), .val (.ref b43), .unset, .unset] [(.int (Int32.ofNat dn)), (.ref b17)])) rfl (by rw [hml]; rfl) (Steps.refl _) (argsL := [(.int (Int32.ofNat dn))]) (rest := []) (lenOf pd_5 rfl) rfl (by show 2 * 0 + _ ≤ _; exact Nat.le_of_eq rfl) (hb hby at_185) (fun _ _ => ⟨rfl, rfl, (by decide : 8 + 0 ≤ _), (by decide : 41 + 0 ≤ _)⟩)
    dsimp only [Pt.U, Pt.locs, Pt.cells, Pt.slots] at X238 l238 y238 z238 st238 hQ238
    obtain rfl : k238 = 8 := y238; obtain rfl : n238 = 41 := z238
    obtain ⟨rfl, N238q, K238q, f238_0, f238_1, f238_2, f238_3⟩ := hQ238
    have N238 : Fr n0 L238 := Eq.mpr (congrArg (Fr n0) l238) (Fr.app N232 N238q)
    have Z238 : n0 ≤ T238.heap.size := Nat.le_trans Z232 K238q.1
    have c239 : Arv Z T238.heap b3 k3 .long (4 : Int32) [(.long y14_0), (.long y16_1), (.long y16_2), (.long y15_3)] (.long (0 : Int64)) := c233.keep K238q (ninS ne18 nin0)
    have c240 : Exa Z T238.heap b20 "com/example/causeline/causeline/core/CopyTable" := c234.keep K238q
    have c241 : Exa Z T238.heap b43 "com/example/causeline/causeline/core/Waiting" := c235.keep K238q
    have c242 : Fld Z T238.heap b43 "com/example/causeline/causeline/core/Waiting" "order" "J" (.long (7 : Int64)) := c236.keep K238q (ninS (Ne.symm ne46) nin0)
    have c243 : Exa Z T238.heap b17 "com/example/causeline/causeline/core/Filing" := f232_0.keep K238q
    have c244 : Arv Z T238.heap vn211 kn211 .long (4 : Int32) [(.long y14_0), (.long y16_1), (.long y16_2), (.long y15_3)] (.long (0 : Int64)) := f232_5.keep K238q (ninS (Ne.symm nevn211_b17) nin0)
    have c245 : Arv Z T238.heap vo211 ko211 .long (4 : Int32) [(.long (7 : Int64)), (.long (7 : Int64)), (.long (7 : Int64)), (.long (7 : Int64))] (.long (0 : Int64)) := f232_6.keep K238q (ninS (Ne.symm nevo211_b17) nin0)
    have K238 : Keep h0 T238.heap [] := K232.trans K238q (allS (Or.inr sz_b17) all0)
    have g246 : Fld Z T238.heap b17 "com/example/causeline/causeline/core/Filing" "first" "I" (.int (Int32.ofNat (if dn = 4 then 0 else dn))) := by have q := f238_2; rw [own_ef_n4 (own_w0 hdn (by decide))] at q; exact q
    have g247 : Fld Z T238.heap b17 "com/example/causeline/causeline/core/Filing" "end" "I" (.int (Int32.ofNat (if dn = 4 then 0 else 4))) := by have q := f238_3; rw [own_ee_n4 (own_w0 hdn (by decide))] at q; exact q
    obtain ⟨cq248, kq248, q248a, q248b, q248c⟩ := isOf hZ rfl f238_0
    obtain ⟨_, _, ⟨T248, L248, k248, n248⟩, -, X248, ⟨Lc248, hQ248, l248, y248, z248⟩, st248⟩ := X238.virtualBack hx (y := (⟨"com/example/causeline/causeline/core/Filing", "past", "(J)I"⟩ : MethodName)) (z := (⟨"com/example/causeline/causeline/core/Filing", "past", "(J)I"⟩ : MethodName)) hown (mvT hZ (hw _ (List.mem_of_getElem? (i := 92) rfl))) (mvT hZ (hw _ (List.mem_of_getElem? (i := 93) rfl))) (notFace_of_selects (args := #[]) (mvT hZ (hw _ (List.mem_of_getElem? (i := 95) rfl)))) (mvT hZ (hw _ (List.mem_of_getElem? (i := 95) rfl))) (mvT hZ (hw _ (List.mem_of_getElem? (i := 94) rfl))) (by decide) (backOf (W := 0) (rm11 l Z a0 hw [] b17 vq vn211 kn211 (4 : Int32) [y14_0, y16_1, y16_2, y15_3] (if dn = 4 then 0 else dn) (if dn = 4 then 0 else 4) T238.heap n0 Z238 f238_1 g246 g247 c244 (own_w1 hdn (by decide)) (own_w2 hdn (by decide)) (own_w3 hdn (by decide)) (Or.inr rfl)) hZ (hw _ (List.mem_of_getElem? (i := 96) rfl)) (hw _ (List.mem_of_getElem? (i := 7) rfl)) (by decide) (by decide)) q248a q248c (g := (mkF m 193 #[.val (.long va_), .second, .val (.long vb_), .second, .val (.long vc_), .second, .val (.long ve_), .second, .val (.long vq), .second, .val (.int vctl), .val (.int (4 : Int32)), .val (.int (Int32.ofNat dn)), .val (.ref b3), .val (.ref b17), .val (.ref b43), .unset, .unset] [(.long vq), (.ref b17)])) rfl (by rw [hml]; rfl) (Steps.refl _) (argsL := [(.long vq)]) (rest := []) (lenOf pd_6 rfl) rfl (by show 2 * 0 + _ ≤ _; exact Nat.le_of_eq rfl) (hb hby at_193) (fun _ _ => ⟨rfl, rfl, (by decide : 8 + 0 ≤ _), (by decide : 41 + 0 ≤ _)⟩)
    dsimp only [Pt.U, Pt.locs, Pt.cells, Pt.slots] at X248 l248 y248 z248 st248 hQ248
    obtain rfl : k248 = 8 := y248; obtain rfl : n248 = 41 := z248
    obtain ⟨rfl, N248q, K248q⟩ := hQ248
    have N248 : Fr n0 L248 := Eq.mpr (congrArg (Fr n0) l248) (Fr.app N238 N248q)
    have Z248 : n0 ≤ T248.heap.size := Nat.le_trans Z238 K248q.1
    have c249 : Arv Z T248.heap b3 k3 .long (4 : Int32) [(.long y14_0), (.long y16_1), (.long y16_2), (.long y15_3)] (.long (0 : Int64)) := c239.keep K248q nin0
    have c250 : Exa Z T248.heap b20 "com/example/causeline/causeline/core/CopyTable" := c240.keep K248q
    have c251 : Exa Z T248.heap b43 "com/example/causeline/causeline/core/Waiting" := c241.keep K248q
    have c252 : Fld Z T248.heap b43 "com/example/causeline/causeline/core/Waiting" "order" "J" (.long (7 : Int64)) := c242.keep K248q nin0
    have c253 : Arv Z T248.heap vn211 kn211 .long (4 : Int32) [(.long y14_0), (.long y16_1), (.long y16_2), (.long y15_3)] (.long (0 : Int64)) := c244.keep K248q nin0
    have c254 : Arv Z T248.heap vo211 ko211 .long (4 : Int32) [(.long (7 : Int64)), (.long (7 : Int64)), (.long (7 : Int64)), (.long (7 : Int64))] (.long (0 : Int64)) := c245.keep K248q nin0
    have c255 : Exa Z T248.heap b17 "com/example/causeline/causeline/core/Filing" := f238_0.keep K248q
    have c256 : Fld Z T248.heap b17 "com/example/causeline/causeline/core/Filing" "numbers" "[J" (.ref vn211) := f238_1.keep K248q nin0
    have c257 : Fld Z T248.heap b17 "com/example/causeline/causeline/core/Filing" "first" "I" (.int (Int32.ofNat (if dn = 4 then 0 else dn))) := g246.keep K248q nin0
    have c258 : Fld Z T248.heap b17 "com/example/causeline/causeline/core/Filing" "end" "I" (.int (Int32.ofNat (if dn = 4 then 0 else 4))) := g247.keep K248q nin0
    have K248 : Keep h0 T248.heap [] := K238.trans K248q all0
    have pre259 : ∀ t, Steps p.tables e below (T248.setTop (mkF m 202 #[.val (.long va_), .second, .val (.long vb_), .second, .val (.long vc_), .second, .val (.long ve_), .second, .val (.long vq), .second, .val (.int vctl), .val (.int (4 : Int32)), .val (.int (Int32.ofNat dn)), .val (.ref b3), .val (.ref b17), .val (.ref b43), .val (.int (Int32.ofNat (own_bs (own_g [y14_0, y16_1, y16_2, y15_3] vq) 4 (if dn = 4 then 0 else dn) (if dn = 4 then 0 else 4)))), .unset] [(.int (4 : Int32)), (.int (Int32.ofNat dn))])) t → Steps p.tables e below (s₁.setTop (entryFrame m #[(.long va_), (.long vb_), (.long vc_), (.long ve_), (.long vq), (.int vctl)] maxLocals)) t := by
      intro t kt
      refine pre63 t ?_
      show Steps p.tables e below (T54.setTop (mkF m 114 #[.val (.long va_), .second, .val (.long vb_), .second, .val (.long vc_), .second, .val (.long ve_), .second, .val (.long vq), .second, .val (.int vctl), .val (.int (4 : Int32)), .val (.int (Int32.ofNat dn)), .val (.ref b3), .val (.ref b17), .val (.ref b43), .unset, .unset] [])) _
      refine XS.iload X54.here hx rfl (hb hby at_114) rfl ?_
      show Steps p.tables e below (T54.setTop (mkF m 116 #[.val (.long va_), .second, .val (.long vb_), .second, .val (.long vc_), .second, .val (.long ve_), .second, .val (.long vq), .second, .val (.int vctl), .val (.int (4 : Int32)), .val (.int (Int32.ofNat dn)), .val (.ref b3), .val (.ref b17), .val (.ref b43), .unset, .unset] [(.int (4 : Int32))])) _
      refine XS.ifNo X54.here hx rfl (hb hby at_116) rfl ((if0 _ _).trans (tlt ((by decide) : (0 : Int32) < (4 : Int32))).2.2.2) ?_
      show Steps p.tables e below (T54.setTop (mkF m 119 #[.val (.long va_), .second, .val (.long vb_), .second, .val (.long vc_), .second, .val (.long ve_), .second, .val (.long vq), .second, .val (.int vctl), .val (.int (4 : Int32)), .val (.int (Int32.ofNat dn)), .val (.ref b3), .val (.ref b17), .val (.ref b43), .unset, .unset] [])) _
      refine XS.aload X54.here hx rfl (hb hby at_119) rfl rfl ?_
      show Steps p.tables e below (T54.setTop (mkF m 121 #[.val (.long va_), .second, .val (.long vb_), .second, .val (.long vc_), .second, .val (.long ve_), .second, .val (.long vq), .second, .val (.int vctl), .val (.int (4 : Int32)), .val (.int (Int32.ofNat dn)), .val (.ref b3), .val (.ref b17), .val (.ref b43), .unset, .unset] [(.ref b17)])) _
      refine XS.aload X54.here hx rfl (hb hby at_121) rfl rfl ?_
      show Steps p.tables e below (T54.setTop (mkF m 123 #[.val (.long va_), .second, .val (.long vb_), .second, .val (.long vc_), .second, .val (.long ve_), .second, .val (.long vq), .second, .val (.int vctl), .val (.int (4 : Int32)), .val (.int (Int32.ofNat dn)), .val (.ref b3), .val (.ref b17), .val (.ref b43), .unset, .unset] [(.ref b3), (.ref b17)])) _
      refine XS.iconst X54.here hx rfl (hb hby at_123) ?_
      show Steps p.tables e below (T54.setTop (mkF m 124 #[.val (.long va_), .second, .val (.long vb_), .second, .val (.long vc_), .second, .val (.long ve_), .second, .val (.long vq), .second, .val (.int vctl), .val (.int (4 : Int32)), .val (.int (Int32.ofNat dn)), .val (.ref b3), .val (.ref b17), .val (.ref b43), .unset, .unset] [(.int (0 : Int32)), (.ref b3), (.ref b17)])) _
      refine X54.laload hx (j := (0 : Int32)) (v := (.long y14_0)) (by exact Ar210.1) (State.isArrayOf_alike hZ.alike Ar210.2.1) Ar210.2.2 hin210 hat210 (g := (mkF m 124 #[.val (.long va_), .second, .val (.long vb_), .second, .val (.long vc_), .second, .val (.long ve_), .second, .val (.long vq), .second, .val (.int vctl), .val (.int (4 : Int32)), .val (.int (Int32.ofNat dn)), .val (.ref b3), .val (.ref b17), .val (.ref b43), .unset, .unset] [(.int (0 : Int32)), (.ref b3), (.ref b17)])) rfl rfl (hb hby at_124) _ ?_
      show Steps p.tables e below (T54.setTop (mkF m 125 #[.val (.long va_), .second, .val (.long vb_), .second, .val (.long vc_), .second, .val (.long ve_), .second, .val (.long vq), .second, .val (.int vctl), .val (.int (4 : Int32)), .val (.int (Int32.ofNat dn)), .val (.ref b3), .val (.ref b17), .val (.ref b43), .unset, .unset] [(.long y14_0), (.ref b17)])) _
      refine XS.aload X54.here hx rfl (hb hby at_125) rfl rfl ?_
      show Steps p.tables e below (T54.setTop (mkF m 127 #[.val (.long va_), .second, .val (.long vb_), .second, .val (.long vc_), .second, .val (.long ve_), .second, .val (.long vq), .second, .val (.int vctl), .val (.int (4 : Int32)), .val (.int (Int32.ofNat dn)), .val (.ref b3), .val (.ref b17), .val (.ref b43), .unset, .unset] [(.ref b43), (.long y14_0), (.ref b17)])) _
      refine st211.trans ?_
      show Steps p.tables e below (T211.setTop (mkF m 130 #[.val (.long va_), .second, .val (.long vb_), .second, .val (.long vc_), .second, .val (.long ve_), .second, .val (.long vq), .second, .val (.int vctl), .val (.int (4 : Int32)), .val (.int (Int32.ofNat dn)), .val (.ref b3), .val (.ref b17), .val (.ref b43), .unset, .unset] [])) _
      refine XS.iload X211.here hx rfl (hb hby at_130) rfl ?_
      show Steps p.tables e below (T211.setTop (mkF m 132 #[.val (.long va_), .second, .val (.long vb_), .second, .val (.long vc_), .second, .val (.long ve_), .second, .val (.long vq), .second, .val (.int vctl), .val (.int (4 : Int32)), .val (.int (Int32.ofNat dn)), .val (.ref b3), .val (.ref b17), .val (.ref b43), .unset, .unset] [(.int (4 : Int32))])) _
      refine XS.iconst X211.here hx rfl (hb hby at_132) ?_
      show Steps p.tables e below (T211.setTop (mkF m 133 #[.val (.long va_), .second, .val (.long vb_), .second, .val (.long vc_), .second, .val (.long ve_), .second, .val (.long vq), .second, .val (.int vctl), .val (.int (4 : Int32)), .val (.int (Int32.ofNat dn)), .val (.ref b3), .val (.ref b17), .val (.ref b43), .unset, .unset] [(.int (1 : Int32)), (.int (4 : Int32))])) _
      refine XS.icmpNo X211.here hx rfl (hb hby at_133) rfl (tlt ((by decide) : (1 : Int32) < (4 : Int32))).2.2.2 ?_
      show Steps p.tables e below (T211.setTop (mkF m 136 #[.val (.long va_), .second, .val (.long vb_), .second, .val (.long vc_), .second, .val (.long ve_), .second, .val (.long vq), .second, .val (.int vctl), .val (.int (4 : Int32)), .val (.int (Int32.ofNat dn)), .val (.ref b3), .val (.ref b17), .val (.ref b43), .unset, .unset] [])) _
      refine XS.aload X211.here hx rfl (hb hby at_136) rfl rfl ?_
      show Steps p.tables e below (T211.setTop (mkF m 138 #[.val (.long va_), .second, .val (.long vb_), .second, .val (.long vc_), .second, .val (.long ve_), .second, .val (.long vq), .second, .val (.int vctl), .val (.int (4 : Int32)), .val (.int (Int32.ofNat dn)), .val (.ref b3), .val (.ref b17), .val (.ref b43), .unset, .unset] [(.ref b17)])) _
      refine XS.aload X211.here hx rfl (hb hby at_138) rfl rfl ?_
      show Steps p.tables e below (T211.setTop (mkF m 140 #[.val (.long va_), .second, .val (.long vb_), .second, .val (.long vc_), .second, .val (.long ve_), .second, .val (.long vq), .second, .val (.int vctl), .val (.int (4 : Int32)), .val (.int (Int32.ofNat dn)), .val (.ref b3), .val (.ref b17), .val (.ref b43), .unset, .unset] [(.ref b3), (.ref b17)])) _
      refine XS.iconst X211.here hx rfl (hb hby at_140) ?_
      show Steps p.tables e below (T211.setTop (mkF m 141 #[.val (.long va_), .second, .val (.long vb_), .second, .val (.long vc_), .second, .val (.long ve_), .second, .val (.long vq), .second, .val (.int vctl), .val (.int (4 : Int32)), .val (.int (Int32.ofNat dn)), .val (.ref b3), .val (.ref b17), .val (.ref b43), .unset, .unset] [(.int (1 : Int32)), (.ref b3), (.ref b17)])) _
      refine X211.laload hx (j := (1 : Int32)) (v := (.long y16_1)) (by exact Ar217.1) (State.isArrayOf_alike hZ.alike Ar217.2.1) Ar217.2.2 hin217 hat217 (g := (mkF m 141 #[.val (.long va_), .second, .val (.long vb_), .second, .val (.long vc_), .second, .val (.long ve_), .second, .val (.long vq), .second, .val (.int vctl), .val (.int (4 : Int32)), .val (.int (Int32.ofNat dn)), .val (.ref b3), .val (.ref b17), .val (.ref b43), .unset, .unset] [(.int (1 : Int32)), (.ref b3), (.ref b17)])) rfl rfl (hb hby at_141) _ ?_
      show Steps p.tables e below (T211.setTop (mkF m 142 #[.val (.long va_), .second, .val (.long vb_), .second, .val (.long vc_), .second, .val (.long ve_), .second, .val (.long vq), .second, .val (.int vctl), .val (.int (4 : Int32)), .val (.int (Int32.ofNat dn)), .val (.ref b3), .val (.ref b17), .val (.ref b43), .unset, .unset] [(.long y16_1), (.ref b17)])) _
      refine XS.aload X211.here hx rfl (hb hby at_142) rfl rfl ?_
      show Steps p.tables e below (T211.setTop (mkF m 144 #[.val (.long va_), .second, .val (.long vb_), .second, .val (.long vc_), .second, .val (.long ve_), .second, .val (.long vq), .second, .val (.int vctl), .val (.int (4 : Int32)), .val (.int (Int32.ofNat dn)), .val (.ref b3), .val (.ref b17), .val (.ref b43), .unset, .unset] [(.ref b43), (.long y16_1), (.ref b17)])) _
      refine st218.trans ?_
      show Steps p.tables e below (T218.setTop (mkF m 147 #[.val (.long va_), .second, .val (.long vb_), .second, .val (.long vc_), .second, .val (.long ve_), .second, .val (.long vq), .second, .val (.int vctl), .val (.int (4 : Int32)), .val (.int (Int32.ofNat dn)), .val (.ref b3), .val (.ref b17), .val (.ref b43), .unset, .unset] [])) _
      refine XS.iload X218.here hx rfl (hb hby at_147) rfl ?_
      show Steps p.tables e below (T218.setTop (mkF m 149 #[.val (.long va_), .second, .val (.long vb_), .second, .val (.long vc_), .second, .val (.long ve_), .second, .val (.long vq), .second, .val (.int vctl), .val (.int (4 : Int32)), .val (.int (Int32.ofNat dn)), .val (.ref b3), .val (.ref b17), .val (.ref b43), .unset, .unset] [(.int (4 : Int32))])) _
      refine XS.iconst X218.here hx rfl (hb hby at_149) ?_
      show Steps p.tables e below (T218.setTop (mkF m 150 #[.val (.long va_), .second, .val (.long vb_), .second, .val (.long vc_), .second, .val (.long ve_), .second, .val (.long vq), .second, .val (.int vctl), .val (.int (4 : Int32)), .val (.int (Int32.ofNat dn)), .val (.ref b3), .val (.ref b17), .val (.ref b43), .unset, .unset] [(.int (2 : Int32)), (.int (4 : Int32))])) _
      refine XS.icmpNo X218.here hx rfl (hb hby at_150) rfl (tlt ((by decide) : (2 : Int32) < (4 : Int32))).2.2.2 ?_
      show Steps p.tables e below (T218.setTop (mkF m 153 #[.val (.long va_), .second, .val (.long vb_), .second, .val (.long vc_), .second, .val (.long ve_), .second, .val (.long vq), .second, .val (.int vctl), .val (.int (4 : Int32)), .val (.int (Int32.ofNat dn)), .val (.ref b3), .val (.ref b17), .val (.ref b43), .unset, .unset] [])) _
      refine XS.aload X218.here hx rfl (hb hby at_153) rfl rfl ?_
      show Steps p.tables e below (T218.setTop (mkF m 155 #[.val (.long va_), .second, .val (.long vb_), .second, .val (.long vc_), .second, .val (.long ve_), .second, .val (.long vq), .second, .val (.int vctl), .val (.int (4 : Int32)), .val (.int (Int32.ofNat dn)), .val (.ref b3), .val (.ref b17), .val (.ref b43), .unset, .unset] [(.ref b17)])) _
      refine XS.aload X218.here hx rfl (hb hby at_155) rfl rfl ?_
      show Steps p.tables e below (T218.setTop (mkF m 157 #[.val (.long va_), .second, .val (.long vb_), .second, .val (.long vc_), .second, .val (.long ve_), .second, .val (.long vq), .second, .val (.int vctl), .val (.int (4 : Int32)), .val (.int (Int32.ofNat dn)), .val (.ref b3), .val (.ref b17), .val (.ref b43), .unset, .unset] [(.ref b3), (.ref b17)])) _
      refine XS.iconst X218.here hx rfl (hb hby at_157) ?_
      show Steps p.tables e below (T218.setTop (mkF m 158 #[.val (.long va_), .second, .val (.long vb_), .second, .val (.long vc_), .second, .val (.long ve_), .second, .val (.long vq), .second, .val (.int vctl), .val (.int (4 : Int32)), .val (.int (Int32.ofNat dn)), .val (.ref b3), .val (.ref b17), .val (.ref b43), .unset, .unset] [(.int (2 : Int32)), (.ref b3), (.ref b17)])) _
      refine X218.laload hx (j := (2 : Int32)) (v := (.long y16_2)) (by exact Ar224.1) (State.isArrayOf_alike hZ.alike Ar224.2.1) Ar224.2.2 hin224 hat224 (g := (mkF m 158 #[.val (.long va_), .second, .val (.long vb_), .second, .val (.long vc_), .second, .val (.long ve_), .second, .val (.long vq), .second, .val (.int vctl), .val (.int (4 : Int32)), .val (.int (Int32.ofNat dn)), .val (.ref b3), .val (.ref b17), .val (.ref b43), .unset, .unset] [(.int (2 : Int32)), (.ref b3), (.ref b17)])) rfl rfl (hb hby at_158) _ ?_
      show Steps p.tables e below (T218.setTop (mkF m 159 #[.val (.long va_), .second, .val (.long vb_), .second, .val (.long vc_), .second, .val (.long ve_), .second, .val (.long vq), .second, .val (.int vctl), .val (.int (4 : Int32)), .val (.int (Int32.ofNat dn)), .val (.ref b3), .val (.ref b17), .val (.ref b43), .unset, .unset] [(.long y16_2), (.ref b17)])) _
      refine XS.aload X218.here hx rfl (hb hby at_159) rfl rfl ?_
      show Steps p.tables e below (T218.setTop (mkF m 161 #[.val (.long va_), .second, .val (.long vb_), .second, .val (.long vc_), .second, .val (.long ve_), .second, .val (.long vq), .second, .val (.int vctl), .val (.int (4 : Int32)), .val (.int (Int32.ofNat dn)), .val (.ref b3), .val (.ref b17), .val (.ref b43), .unset, .unset] [(.ref b43), (.long y16_2), (.ref b17)])) _
      refine st225.trans ?_
      show Steps p.tables e below (T225.setTop (mkF m 164 #[.val (.long va_), .second, .val (.long vb_), .second, .val (.long vc_), .second, .val (.long ve_), .second, .val (.long vq), .second, .val (.int vctl), .val (.int (4 : Int32)), .val (.int (Int32.ofNat dn)), .val (.ref b3), .val (.ref b17), .val (.ref b43), .unset, .unset] [])) _
      refine XS.iload X225.here hx rfl (hb hby at_164) rfl ?_
      show Steps p.tables e below (T225.setTop (mkF m 166 #[.val (.long va_), .second, .val (.long vb_), .second, .val (.long vc_), .second, .val (.long ve_), .second, .val (.long vq), .second, .val (.int vctl), .val (.int (4 : Int32)), .val (.int (Int32.ofNat dn)), .val (.ref b3), .val (.ref b17), .val (.ref b43), .unset, .unset] [(.int (4 : Int32))])) _
      refine XS.iconst X225.here hx rfl (hb hby at_166) ?_
      show Steps p.tables e below (T225.setTop (mkF m 167 #[.val (.long va_), .second, .val (.long vb_), .second, .val (.long vc_), .second, .val (.long ve_), .second, .val (.long vq), .second, .val (.int vctl), .val (.int (4 : Int32)), .val (.int (Int32.ofNat dn)), .val (.ref b3), .val (.ref b17), .val (.ref b43), .unset, .unset] [(.int (3 : Int32)), (.int (4 : Int32))])) _
      refine XS.icmpNo X225.here hx rfl (hb hby at_167) rfl (tlt ((by decide) : (3 : Int32) < (4 : Int32))).2.2.2 ?_
      show Steps p.tables e below (T225.setTop (mkF m 170 #[.val (.long va_), .second, .val (.long vb_), .second, .val (.long vc_), .second, .val (.long ve_), .second, .val (.long vq), .second, .val (.int vctl), .val (.int (4 : Int32)), .val (.int (Int32.ofNat dn)), .val (.ref b3), .val (.ref b17), .val (.ref b43), .unset, .unset] [])) _
      refine XS.aload X225.here hx rfl (hb hby at_170) rfl rfl ?_
      show Steps p.tables e below (T225.setTop (mkF m 172 #[.val (.long va_), .second, .val (.long vb_), .second, .val (.long vc_), .second, .val (.long ve_), .second, .val (.long vq), .second, .val (.int vctl), .val (.int (4 : Int32)), .val (.int (Int32.ofNat dn)), .val (.ref b3), .val (.ref b17), .val (.ref b43), .unset, .unset] [(.ref b17)])) _
      refine XS.aload X225.here hx rfl (hb hby at_172) rfl rfl ?_
      show Steps p.tables e below (T225.setTop (mkF m 174 #[.val (.long va_), .second, .val (.long vb_), .second, .val (.long vc_), .second, .val (.long ve_), .second, .val (.long vq), .second, .val (.int vctl), .val (.int (4 : Int32)), .val (.int (Int32.ofNat dn)), .val (.ref b3), .val (.ref b17), .val (.ref b43), .unset, .unset] [(.ref b3), (.ref b17)])) _
      refine XS.iconst X225.here hx rfl (hb hby at_174) ?_
      show Steps p.tables e below (T225.setTop (mkF m 175 #[.val (.long va_), .second, .val (.long vb_), .second, .val (.long vc_), .second, .val (.long ve_), .second, .val (.long vq), .second, .val (.int vctl), .val (.int (4 : Int32)), .val (.int (Int32.ofNat dn)), .val (.ref b3), .val (.ref b17), .val (.ref b43), .unset, .unset] [(.int (3 : Int32)), (.ref b3), (.ref b17)])) _
      refine X225.laload hx (j := (3 : Int32)) (v := (.long y15_3)) (by exact Ar231.1) (State.isArrayOf_alike hZ.alike Ar231.2.1) Ar231.2.2 hin231 hat231 (g := (mkF m 175 #[.val (.long va_), .second, .val (.long vb_), .second, .val (.long vc_), .second, .val (.long ve_), .second, .val (.long vq), .second, .val (.int vctl), .val (.int (4 : Int32)), .val (.int (Int32.ofNat dn)), .val (.ref b3), .val (.ref b17), .val (.ref b43), .unset, .unset] [(.int (3 : Int32)), (.ref b3), (.ref b17)])) rfl rfl (hb hby at_175) _ ?_
      show Steps p.tables e below (T225.setTop (mkF m 176 #[.val (.long va_), .second, .val (.long vb_), .second, .val (.long vc_), .second, .val (.long ve_), .second, .val (.long vq), .second, .val (.int vctl), .val (.int (4 : Int32)), .val (.int (Int32.ofNat dn)), .val (.ref b3), .val (.ref b17), .val (.ref b43), .unset, .unset] [(.long y15_3), (.ref b17)])) _
      refine XS.aload X225.here hx rfl (hb hby at_176) rfl rfl ?_
      show Steps p.tables e below (T225.setTop (mkF m 178 #[.val (.long va_), .second, .val (.long vb_), .second, .val (.long vc_), .second, .val (.long ve_), .second, .val (.long vq), .second, .val (.int vctl), .val (.int (4 : Int32)), .val (.int (Int32.ofNat dn)), .val (.ref b3), .val (.ref b17), .val (.ref b43), .unset, .unset] [(.ref b43), (.long y15_3), (.ref b17)])) _
      refine st232.trans ?_
      show Steps p.tables e below (T232.setTop (mkF m 181 #[.val (.long va_), .second, .val (.long vb_), .second, .val (.long vc_), .second, .val (.long ve_), .second, .val (.long vq), .second, .val (.int vctl), .val (.int (4 : Int32)), .val (.int (Int32.ofNat dn)), .val (.ref b3), .val (.ref b17), .val (.ref b43), .unset, .unset] [])) _
      refine XS.aload X232.here hx rfl (hb hby at_181) rfl rfl ?_
      show Steps p.tables e below (T232.setTop (mkF m 183 #[.val (.long va_), .second, .val (.long vb_), .second, .val (.long vc_), .second, .val (.long ve_), .second, .val (.long vq), .second, .val (.int vctl), .val (.int (4 : Int32)), .val (.int (Int32.ofNat dn)), .val (.ref b3), .val (.ref b17), .val (.ref b43), .unset, .unset] [(.ref b17)])) _
      refine XS.iload X232.here hx rfl (hb hby at_183) rfl ?_
      show Steps p.tables e below (T232.setTop (mkF m 185 #[.val (.long va_), .second, .val (.long vb_), .second, .val (.long vc_), .second, .val (.long ve_), .second, .val (.long vq), .second, .val (.int vctl), .val (.int (4 : Int32)), .val (.int (Int32.ofNat dn)), .val (.ref b3), .val (.ref b17), .val (.ref b43), .unset, .unset] [(.int (Int32.ofNat dn)), (.ref b17)])) _
      refine st238.trans ?_
      show Steps p.tables e below (T238.setTop (mkF m 188 #[.val (.long va_), .second, .val (.long vb_), .second, .val (.long vc_), .second, .val (.long ve_), .second, .val (.long vq), .second, .val (.int vctl), .val (.int (4 : Int32)), .val (.int (Int32.ofNat dn)), .val (.ref b3), .val (.ref b17), .val (.ref b43), .unset, .unset] [(.int ((Int32.ofNat dn) - (0 : Int32)))])) _
      refine XS.pop X238.here hx rfl (hb hby at_188) rfl rfl ?_
      show Steps p.tables e below (T238.setTop (mkF m 189 #[.val (.long va_), .second, .val (.long vb_), .second, .val (.long vc_), .second, .val (.long ve_), .second, .val (.long vq), .second, .val (.int vctl), .val (.int (4 : Int32)), .val (.int (Int32.ofNat dn)), .val (.ref b3), .val (.ref b17), .val (.ref b43), .unset, .unset] [])) _
      refine XS.aload X238.here hx rfl (hb hby at_189) rfl rfl ?_
      show Steps p.tables e below (T238.setTop (mkF m 191 #[.val (.long va_), .second, .val (.long vb_), .second, .val (.long vc_), .second, .val (.long ve_), .second, .val (.long vq), .second, .val (.int vctl), .val (.int (4 : Int32)), .val (.int (Int32.ofNat dn)), .val (.ref b3), .val (.ref b17), .val (.ref b43), .unset, .unset] [(.ref b17)])) _
      refine XS.lload X238.here hx rfl (hb hby at_191) rfl ?_
      show Steps p.tables e below (T238.setTop (mkF m 193 #[.val (.long va_), .second, .val (.long vb_), .second, .val (.long vc_), .second, .val (.long ve_), .second, .val (.long vq), .second, .val (.int vctl), .val (.int (4 : Int32)), .val (.int (Int32.ofNat dn)), .val (.ref b3), .val (.ref b17), .val (.ref b43), .unset, .unset] [(.long vq), (.ref b17)])) _
      refine st248.trans ?_
      show Steps p.tables e below (T248.setTop (mkF m 196 #[.val (.long va_), .second, .val (.long vb_), .second, .val (.long vc_), .second, .val (.long ve_), .second, .val (.long vq), .second, .val (.int vctl), .val (.int (4 : Int32)), .val (.int (Int32.ofNat dn)), .val (.ref b3), .val (.ref b17), .val (.ref b43), .unset, .unset] [(.int (Int32.ofNat (own_bs (own_g [y14_0, y16_1, y16_2, y15_3] vq) 4 (if dn = 4 then 0 else dn) (if dn = 4 then 0 else 4))))])) _
      refine XS.istore X248.here hx rfl (hb hby at_196) rfl (l' := #[.val (.long va_), .second, .val (.long vb_), .second, .val (.long vc_), .second, .val (.long ve_), .second, .val (.long vq), .second, .val (.int vctl), .val (.int (4 : Int32)), .val (.int (Int32.ofNat dn)), .val (.ref b3), .val (.ref b17), .val (.ref b43), .val (.int (Int32.ofNat (own_bs (own_g [y14_0, y16_1, y16_2, y15_3] vq) 4 (if dn = 4 then 0 else dn) (if dn = 4 then 0 else 4)))), .unset]) rfl ?_
      show Steps p.tables e below (T248.setTop (mkF m 198 #[.val (.long va_), .second, .val (.long vb_), .second, .val (.long vc_), .second, .val (.long ve_), .second, .val (.long vq), .second, .val (.int vctl), .val (.int (4 : Int32)), .val (.int (Int32.ofNat dn)), .val (.ref b3), .val (.ref b17), .val (.ref b43), .val (.int (Int32.ofNat (own_bs (own_g [y14_0, y16_1, y16_2, y15_3] vq) 4 (if dn = 4 then 0 else dn) (if dn = 4 then 0 else 4)))), .unset] [])) _
      refine XS.iload X248.here hx rfl (hb hby at_198) rfl ?_
      show Steps p.tables e below (T248.setTop (mkF m 200 #[.val (.long va_), .second, .val (.long vb_), .second, .val (.long vc_), .second, .val (.long ve_), .second, .val (.long vq), .second, .val (.int vctl), .val (.int (4 : Int32)), .val (.int (Int32.ofNat dn)), .val (.ref b3), .val (.ref b17), .val (.ref b43), .val (.int (Int32.ofNat (own_bs (own_g [y14_0, y16_1, y16_2, y15_3] vq) 4 (if dn = 4 then 0 else dn) (if dn = 4 then 0 else 4)))), .unset] [(.int (Int32.ofNat dn))])) _
      refine XS.iload X248.here hx rfl (hb hby at_200) rfl ?_
      exact kt
    by_cases hc260 : (Int32.ofNat dn) < (4 : Int32)
    ·
      obtain ⟨_, _, ⟨T261, L261, k261, n261⟩, -, X261, ⟨Lc261, hQ261, l261, y261, z261⟩, st261⟩ := Jvm.LawKit.callS X248 hx (y := (⟨"com/example/causeline/causeline/core/FilingPastPinLaw", "in", "([JIIIJ)I"⟩ : MethodName)) hown (mvT hZ (hw _ (List.mem_of_getElem? (i := 97) rfl))) (mvT hZ (hw _ (List.mem_of_getElem? (i := 98) rfl))) (mvT hZ (hw _ (List.mem_of_getElem? (i := 3) rfl))) (mvT hZ (hw _ (List.mem_of_getElem? (i := 99) rfl))) (by decide) (backOf (W := 1) (rmIn0 l Z a0 hw [] b3 (Int32.ofNat dn) (4 : Int32) vq y14_0 y16_1 y16_2 y15_3 k3 T248.heap n0 Z248 c249) hZ (hw _ (List.mem_of_getElem? (i := 99) rfl)) (hw _ (List.mem_of_getElem? (i := 3) rfl)) (by decide) (by decide)) (g := (mkF m 216 #[.val (.long va_), .second, .val (.long vb_), .second, .val (.long vc_), .second, .val (.long ve_), .second, .val (.long vq), .second, .val (.int vctl), .val (.int (4 : Int32)), .val (.int (Int32.ofNat dn)), .val (.ref b3), .val (.ref b17), .val (.ref b43), .val (.int (Int32.ofNat (own_bs (own_g [y14_0, y16_1, y16_2, y15_3] vq) 4 (if dn = 4 then 0 else dn) (if dn = 4 then 0 else 4)))), .unset] [(.long vq), (.int (4 : Int32)), (.int (Int32.ofNat dn)), (.int (0 : Int32)), (.ref b3), (.int (Int32.ofNat dn))])) rfl (by rw [hml]; rfl) (argsL := [(.ref b3), (.int (0 : Int32)), (.int (Int32.ofNat dn)), (.int (4 : Int32)), (.long vq)]) (rest := [(.int (Int32.ofNat dn))]) (lenOf pd_7 rfl) rfl (by show 2 * 0 + _ ≤ _; exact Nat.le_of_eq rfl) (hb hby at_216) (fun _ _ => ⟨rfl, rfl, (by decide : 8 + 0 ≤ _), (by decide : 41 + 0 ≤ _)⟩)
      dsimp only [Pt.U, Pt.locs, Pt.cells, Pt.slots] at X261 l261 y261 z261 st261 hQ261
      obtain rfl : k261 = 8 := y261; obtain rfl : n261 = 41 := z261
      obtain ⟨rfl, N261q, e261q⟩ := hQ261
      have N261 : Fr n0 L261 := Eq.mpr (congrArg (Fr n0) l261) (Fr.app N248 N261q)
      obtain ⟨_, _, ⟨T262, L262, k262, n262⟩, -, X262, ⟨Lc262, hQ262, l262, y262, z262⟩, st262⟩ := Jvm.LawKit.callS X261 hx (y := (⟨"com/example/causeline/causeline/core/FilingPastPinLaw", "in", "([JIIIJ)I"⟩ : MethodName)) hown (mvT hZ (hw _ (List.mem_of_getElem? (i := 97) rfl))) (mvT hZ (hw _ (List.mem_of_getElem? (i := 98) rfl))) (mvT hZ (hw _ (List.mem_of_getElem? (i := 3) rfl))) (mvT hZ (hw _ (List.mem_of_getElem? (i := 99) rfl))) (by decide) (backOf (W := 1) (rmIn1 l Z a0 hw [] b3 (Int32.ofNat dn) (4 : Int32) vq y14_0 y16_1 y16_2 y15_3 k3 T248.heap n0 Z248 c249) hZ (hw _ (List.mem_of_getElem? (i := 99) rfl)) (hw _ (List.mem_of_getElem? (i := 3) rfl)) (by decide) (by decide)) (g := (mkF m 229 #[.val (.long va_), .second, .val (.long vb_), .second, .val (.long vc_), .second, .val (.long ve_), .second, .val (.long vq), .second, .val (.int vctl), .val (.int (4 : Int32)), .val (.int (Int32.ofNat dn)), .val (.ref b3), .val (.ref b17), .val (.ref b43), .val (.int (Int32.ofNat (own_bs (own_g [y14_0, y16_1, y16_2, y15_3] vq) 4 (if dn = 4 then 0 else dn) (if dn = 4 then 0 else 4)))), .unset] [(.long vq), (.int (4 : Int32)), (.int (Int32.ofNat dn)), (.int (1 : Int32)), (.ref b3), (.int ((Int32.ofNat dn) + (own_in0 b3 (Int32.ofNat dn) (4 : Int32) vq y14_0 y16_1 y16_2 y15_3)))])) rfl (by rw [hml]; rfl) (argsL := [(.ref b3), (.int (1 : Int32)), (.int (Int32.ofNat dn)), (.int (4 : Int32)), (.long vq)]) (rest := [(.int ((Int32.ofNat dn) + (own_in0 b3 (Int32.ofNat dn) (4 : Int32) vq y14_0 y16_1 y16_2 y15_3)))]) (lenOf pd_7 rfl) rfl (by show 2 * 0 + _ ≤ _; exact Nat.le_of_eq rfl) (hb hby at_229) (fun _ _ => ⟨rfl, e261q, (by decide : 8 + 0 ≤ _), (by decide : 41 + 0 ≤ _)⟩)
      dsimp only [Pt.U, Pt.locs, Pt.cells, Pt.slots] at X262 l262 y262 z262 st262 hQ262
      obtain rfl : k262 = 8 := y262; obtain rfl : n262 = 41 := z262
      obtain ⟨rfl, N262q, e262q⟩ := hQ262
      have N262 : Fr n0 L262 := Eq.mpr (congrArg (Fr n0) l262) (Fr.app N261 N262q)
      obtain ⟨_, _, ⟨T263, L263, k263, n263⟩, -, X263, ⟨Lc263, hQ263, l263, y263, z263⟩, st263⟩ := Jvm.LawKit.callS X262 hx (y := (⟨"com/example/causeline/causeline/core/FilingPastPinLaw", "in", "([JIIIJ)I"⟩ : MethodName)) hown (mvT hZ (hw _ (List.mem_of_getElem? (i := 97) rfl))) (mvT hZ (hw _ (List.mem_of_getElem? (i := 98) rfl))) (mvT hZ (hw _ (List.mem_of_getElem? (i := 3) rfl))) (mvT hZ (hw _ (List.mem_of_getElem? (i := 99) rfl))) (by decide) (backOf (W := 1) (rmIn2 l Z a0 hw [] b3 (Int32.ofNat dn) (4 : Int32) vq y14_0 y16_1 y16_2 y15_3 k3 T248.heap n0 Z248 c249) hZ (hw _ (List.mem_of_getElem? (i := 99) rfl)) (hw _ (List.mem_of_getElem? (i := 3) rfl)) (by decide) (by decide)) (g := (mkF m 242 #[.val (.long va_), .second, .val (.long vb_), .second, .val (.long vc_), .second, .val (.long ve_), .second, .val (.long vq), .second, .val (.int vctl), .val (.int (4 : Int32)), .val (.int (Int32.ofNat dn)), .val (.ref b3), .val (.ref b17), .val (.ref b43), .val (.int (Int32.ofNat (own_bs (own_g [y14_0, y16_1, y16_2, y15_3] vq) 4 (if dn = 4 then 0 else dn) (if dn = 4 then 0 else 4)))), .unset] [(.long vq), (.int (4 : Int32)), (.int (Int32.ofNat dn)), (.int (2 : Int32)), (.ref b3), (.int (((Int32.ofNat dn) + (own_in0 b3 (Int32.ofNat dn) (4 : Int32) vq y14_0 y16_1 y16_2 y15_3)) + (own_in1 b3 (Int32.ofNat dn) (4 : Int32) vq y14_0 y16_1 y16_2 y15_3)))])) rfl (by rw [hml]; rfl) (argsL := [(.ref b3), (.int (2 : Int32)), (.int (Int32.ofNat dn)), (.int (4 : Int32)), (.long vq)]) (rest := [(.int (((Int32.ofNat dn) + (own_in0 b3 (Int32.ofNat dn) (4 : Int32) vq y14_0 y16_1 y16_2 y15_3)) + (own_in1 b3 (Int32.ofNat dn) (4 : Int32) vq y14_0 y16_1 y16_2 y15_3)))]) (lenOf pd_7 rfl) rfl (by show 2 * 0 + _ ≤ _; exact Nat.le_of_eq rfl) (hb hby at_242) (fun _ _ => ⟨rfl, e262q, (by decide : 8 + 0 ≤ _), (by decide : 41 + 0 ≤ _)⟩)
      dsimp only [Pt.U, Pt.locs, Pt.cells, Pt.slots] at X263 l263 y263 z263 st263 hQ263
      obtain rfl : k263 = 8 := y263; obtain rfl : n263 = 41 := z263
      obtain ⟨rfl, N263q, e263q⟩ := hQ263
      have N263 : Fr n0 L263 := Eq.mpr (congrArg (Fr n0) l263) (Fr.app N262 N263q)
      obtain ⟨_, _, ⟨T264, L264, k264, n264⟩, -, X264, ⟨Lc264, hQ264, l264, y264, z264⟩, st264⟩ := Jvm.LawKit.callS X263 hx (y := (⟨"com/example/causeline/causeline/core/FilingPastPinLaw", "in", "([JIIIJ)I"⟩ : MethodName)) hown (mvT hZ (hw _ (List.mem_of_getElem? (i := 97) rfl))) (mvT hZ (hw _ (List.mem_of_getElem? (i := 98) rfl))) (mvT hZ (hw _ (List.mem_of_getElem? (i := 3) rfl))) (mvT hZ (hw _ (List.mem_of_getElem? (i := 99) rfl))) (by decide) (backOf (W := 1) (rmIn3 l Z a0 hw [] b3 (Int32.ofNat dn) (4 : Int32) vq y14_0 y16_1 y16_2 y15_3 k3 T248.heap n0 Z248 c249) hZ (hw _ (List.mem_of_getElem? (i := 99) rfl)) (hw _ (List.mem_of_getElem? (i := 3) rfl)) (by decide) (by decide)) (g := (mkF m 255 #[.val (.long va_), .second, .val (.long vb_), .second, .val (.long vc_), .second, .val (.long ve_), .second, .val (.long vq), .second, .val (.int vctl), .val (.int (4 : Int32)), .val (.int (Int32.ofNat dn)), .val (.ref b3), .val (.ref b17), .val (.ref b43), .val (.int (Int32.ofNat (own_bs (own_g [y14_0, y16_1, y16_2, y15_3] vq) 4 (if dn = 4 then 0 else dn) (if dn = 4 then 0 else 4)))), .unset] [(.long vq), (.int (4 : Int32)), (.int (Int32.ofNat dn)), (.int (3 : Int32)), (.ref b3), (.int ((((Int32.ofNat dn) + (own_in0 b3 (Int32.ofNat dn) (4 : Int32) vq y14_0 y16_1 y16_2 y15_3)) + (own_in1 b3 (Int32.ofNat dn) (4 : Int32) vq y14_0 y16_1 y16_2 y15_3)) + (own_in2 b3 (Int32.ofNat dn) (4 : Int32) vq y14_0 y16_1 y16_2 y15_3)))])) rfl (by rw [hml]; rfl) (argsL := [(.ref b3), (.int (3 : Int32)), (.int (Int32.ofNat dn)), (.int (4 : Int32)), (.long vq)]) (rest := [(.int ((((Int32.ofNat dn) + (own_in0 b3 (Int32.ofNat dn) (4 : Int32) vq y14_0 y16_1 y16_2 y15_3)) + (own_in1 b3 (Int32.ofNat dn) (4 : Int32) vq y14_0 y16_1 y16_2 y15_3)) + (own_in2 b3 (Int32.ofNat dn) (4 : Int32) vq y14_0 y16_1 y16_2 y15_3)))]) (lenOf pd_7 rfl) rfl (by show 2 * 0 + _ ≤ _; exact Nat.le_of_eq rfl) (hb hby at_255) (fun _ _ => ⟨rfl, e263q, (by decide : 8 + 0 ≤ _), (by decide : 41 + 0 ≤ _)⟩)
      dsimp only [Pt.U, Pt.locs, Pt.cells, Pt.slots] at X264 l264 y264 z264 st264 hQ264
      obtain rfl : k264 = 8 := y264; obtain rfl : n264 = 41 := z264
      obtain ⟨rfl, N264q, e264q⟩ := hQ264
      have N264 : Fr n0 L264 := Eq.mpr (congrArg (Fr n0) l264) (Fr.app N263 N264q)
      obtain ⟨fs, hr, hrun, hended, hW, hsame⟩ := X264.leave (v := some (.int (1 : Int32))) (fun h => by rw [Bd.returns] at h; cases h) (hlocks := BodyLoose.notSynchronized Bd)
      refine ⟨_, _, pre259 _ ?_, hrun, hended, _, _, rfl, ?_, ⟨_, rfl⟩, hW, hsame.mono (by decide) (by decide)⟩
      ·
        show Steps p.tables e below (T248.setTop (mkF m 202 #[.val (.long va_), .second, .val (.long vb_), .second, .val (.long vc_), .second, .val (.long ve_), .second, .val (.long vq), .second, .val (.int vctl), .val (.int (4 : Int32)), .val (.int (Int32.ofNat dn)), .val (.ref b3), .val (.ref b17), .val (.ref b43), .val (.int (Int32.ofNat (own_bs (own_g [y14_0, y16_1, y16_2, y15_3] vq) 4 (if dn = 4 then 0 else dn) (if dn = 4 then 0 else 4)))), .unset] [(.int (4 : Int32)), (.int (Int32.ofNat dn))])) _
        refine XS.icmpNo X248.here hx rfl (hb hby at_202) rfl (tlt (hc260 : (Int32.ofNat dn) < (4 : Int32))).2.1 ?_
        show Steps p.tables e below (T248.setTop (mkF m 205 #[.val (.long va_), .second, .val (.long vb_), .second, .val (.long vc_), .second, .val (.long ve_), .second, .val (.long vq), .second, .val (.int vctl), .val (.int (4 : Int32)), .val (.int (Int32.ofNat dn)), .val (.ref b3), .val (.ref b17), .val (.ref b43), .val (.int (Int32.ofNat (own_bs (own_g [y14_0, y16_1, y16_2, y15_3] vq) 4 (if dn = 4 then 0 else dn) (if dn = 4 then 0 else 4)))), .unset] [])) _
        refine XS.iload X248.here hx rfl (hb hby at_205) rfl ?_
        show Steps p.tables e below (T248.setTop (mkF m 207 #[.val (.long va_), .second, .val (.long vb_), .second, .val (.long vc_), .second, .val (.long ve_), .second, .val (.long vq), .second, .val (.int vctl), .val (.int (4 : Int32)), .val (.int (Int32.ofNat dn)), .val (.ref b3), .val (.ref b17), .val (.ref b43), .val (.int (Int32.ofNat (own_bs (own_g [y14_0, y16_1, y16_2, y15_3] vq) 4 (if dn = 4 then 0 else dn) (if dn = 4 then 0 else 4)))), .unset] [(.int (Int32.ofNat dn))])) _
        refine XS.aload X248.here hx rfl (hb hby at_207) rfl rfl ?_
        show Steps p.tables e below (T248.setTop (mkF m 209 #[.val (.long va_), .second, .val (.long vb_), .second, .val (.long vc_), .second, .val (.long ve_), .second, .val (.long vq), .second, .val (.int vctl), .val (.int (4 : Int32)), .val (.int (Int32.ofNat dn)), .val (.ref b3), .val (.ref b17), .val (.ref b43), .val (.int (Int32.ofNat (own_bs (own_g [y14_0, y16_1, y16_2, y15_3] vq) 4 (if dn = 4 then 0 else dn) (if dn = 4 then 0 else 4)))), .unset] [(.ref b3), (.int (Int32.ofNat dn))])) _
        refine XS.iconst X248.here hx rfl (hb hby at_209) ?_
        show Steps p.tables e below (T248.setTop (mkF m 210 #[.val (.long va_), .second, .val (.long vb_), .second, .val (.long vc_), .second, .val (.long ve_), .second, .val (.long vq), .second, .val (.int vctl), .val (.int (4 : Int32)), .val (.int (Int32.ofNat dn)), .val (.ref b3), .val (.ref b17), .val (.ref b43), .val (.int (Int32.ofNat (own_bs (own_g [y14_0, y16_1, y16_2, y15_3] vq) 4 (if dn = 4 then 0 else dn) (if dn = 4 then 0 else 4)))), .unset] [(.int (0 : Int32)), (.ref b3), (.int (Int32.ofNat dn))])) _
        refine XS.iload X248.here hx rfl (hb hby at_210) rfl ?_
        show Steps p.tables e below (T248.setTop (mkF m 212 #[.val (.long va_), .second, .val (.long vb_), .second, .val (.long vc_), .second, .val (.long ve_), .second, .val (.long vq), .second, .val (.int vctl), .val (.int (4 : Int32)), .val (.int (Int32.ofNat dn)), .val (.ref b3), .val (.ref b17), .val (.ref b43), .val (.int (Int32.ofNat (own_bs (own_g [y14_0, y16_1, y16_2, y15_3] vq) 4 (if dn = 4 then 0 else dn) (if dn = 4 then 0 else 4)))), .unset] [(.int (Int32.ofNat dn)), (.int (0 : Int32)), (.ref b3), (.int (Int32.ofNat dn))])) _
        refine XS.iload X248.here hx rfl (hb hby at_212) rfl ?_
        show Steps p.tables e below (T248.setTop (mkF m 214 #[.val (.long va_), .second, .val (.long vb_), .second, .val (.long vc_), .second, .val (.long ve_), .second, .val (.long vq), .second, .val (.int vctl), .val (.int (4 : Int32)), .val (.int (Int32.ofNat dn)), .val (.ref b3), .val (.ref b17), .val (.ref b43), .val (.int (Int32.ofNat (own_bs (own_g [y14_0, y16_1, y16_2, y15_3] vq) 4 (if dn = 4 then 0 else dn) (if dn = 4 then 0 else 4)))), .unset] [(.int (4 : Int32)), (.int (Int32.ofNat dn)), (.int (0 : Int32)), (.ref b3), (.int (Int32.ofNat dn))])) _
        refine XS.lload X248.here hx rfl (hb hby at_214) rfl ?_
        show Steps p.tables e below (T248.setTop (mkF m 216 #[.val (.long va_), .second, .val (.long vb_), .second, .val (.long vc_), .second, .val (.long ve_), .second, .val (.long vq), .second, .val (.int vctl), .val (.int (4 : Int32)), .val (.int (Int32.ofNat dn)), .val (.ref b3), .val (.ref b17), .val (.ref b43), .val (.int (Int32.ofNat (own_bs (own_g [y14_0, y16_1, y16_2, y15_3] vq) 4 (if dn = 4 then 0 else dn) (if dn = 4 then 0 else 4)))), .unset] [(.long vq), (.int (4 : Int32)), (.int (Int32.ofNat dn)), (.int (0 : Int32)), (.ref b3), (.int (Int32.ofNat dn))])) _
        refine st261 _ ?_
        show Steps p.tables e below (T261.setTop (mkF m 219 #[.val (.long va_), .second, .val (.long vb_), .second, .val (.long vc_), .second, .val (.long ve_), .second, .val (.long vq), .second, .val (.int vctl), .val (.int (4 : Int32)), .val (.int (Int32.ofNat dn)), .val (.ref b3), .val (.ref b17), .val (.ref b43), .val (.int (Int32.ofNat (own_bs (own_g [y14_0, y16_1, y16_2, y15_3] vq) 4 (if dn = 4 then 0 else dn) (if dn = 4 then 0 else 4)))), .unset] [(.int (own_in0 b3 (Int32.ofNat dn) (4 : Int32) vq y14_0 y16_1 y16_2 y15_3)), (.int (Int32.ofNat dn))])) _
        refine XS.iadd X261.here hx rfl (hb hby at_219) rfl ?_
        show Steps p.tables e below (T261.setTop (mkF m 220 #[.val (.long va_), .second, .val (.long vb_), .second, .val (.long vc_), .second, .val (.long ve_), .second, .val (.long vq), .second, .val (.int vctl), .val (.int (4 : Int32)), .val (.int (Int32.ofNat dn)), .val (.ref b3), .val (.ref b17), .val (.ref b43), .val (.int (Int32.ofNat (own_bs (own_g [y14_0, y16_1, y16_2, y15_3] vq) 4 (if dn = 4 then 0 else dn) (if dn = 4 then 0 else 4)))), .unset] [(.int ((Int32.ofNat dn) + (own_in0 b3 (Int32.ofNat dn) (4 : Int32) vq y14_0 y16_1 y16_2 y15_3)))])) _
        refine XS.aload X261.here hx rfl (hb hby at_220) rfl rfl ?_
        show Steps p.tables e below (T261.setTop (mkF m 222 #[.val (.long va_), .second, .val (.long vb_), .second, .val (.long vc_), .second, .val (.long ve_), .second, .val (.long vq), .second, .val (.int vctl), .val (.int (4 : Int32)), .val (.int (Int32.ofNat dn)), .val (.ref b3), .val (.ref b17), .val (.ref b43), .val (.int (Int32.ofNat (own_bs (own_g [y14_0, y16_1, y16_2, y15_3] vq) 4 (if dn = 4 then 0 else dn) (if dn = 4 then 0 else 4)))), .unset] [(.ref b3), (.int ((Int32.ofNat dn) + (own_in0 b3 (Int32.ofNat dn) (4 : Int32) vq y14_0 y16_1 y16_2 y15_3)))])) _
        refine XS.iconst X261.here hx rfl (hb hby at_222) ?_
        show Steps p.tables e below (T261.setTop (mkF m 223 #[.val (.long va_), .second, .val (.long vb_), .second, .val (.long vc_), .second, .val (.long ve_), .second, .val (.long vq), .second, .val (.int vctl), .val (.int (4 : Int32)), .val (.int (Int32.ofNat dn)), .val (.ref b3), .val (.ref b17), .val (.ref b43), .val (.int (Int32.ofNat (own_bs (own_g [y14_0, y16_1, y16_2, y15_3] vq) 4 (if dn = 4 then 0 else dn) (if dn = 4 then 0 else 4)))), .unset] [(.int (1 : Int32)), (.ref b3), (.int ((Int32.ofNat dn) + (own_in0 b3 (Int32.ofNat dn) (4 : Int32) vq y14_0 y16_1 y16_2 y15_3)))])) _
        refine XS.iload X261.here hx rfl (hb hby at_223) rfl ?_
        show Steps p.tables e below (T261.setTop (mkF m 225 #[.val (.long va_), .second, .val (.long vb_), .second, .val (.long vc_), .second, .val (.long ve_), .second, .val (.long vq), .second, .val (.int vctl), .val (.int (4 : Int32)), .val (.int (Int32.ofNat dn)), .val (.ref b3), .val (.ref b17), .val (.ref b43), .val (.int (Int32.ofNat (own_bs (own_g [y14_0, y16_1, y16_2, y15_3] vq) 4 (if dn = 4 then 0 else dn) (if dn = 4 then 0 else 4)))), .unset] [(.int (Int32.ofNat dn)), (.int (1 : Int32)), (.ref b3), (.int ((Int32.ofNat dn) + (own_in0 b3 (Int32.ofNat dn) (4 : Int32) vq y14_0 y16_1 y16_2 y15_3)))])) _
        refine XS.iload X261.here hx rfl (hb hby at_225) rfl ?_
        show Steps p.tables e below (T261.setTop (mkF m 227 #[.val (.long va_), .second, .val (.long vb_), .second, .val (.long vc_), .second, .val (.long ve_), .second, .val (.long vq), .second, .val (.int vctl), .val (.int (4 : Int32)), .val (.int (Int32.ofNat dn)), .val (.ref b3), .val (.ref b17), .val (.ref b43), .val (.int (Int32.ofNat (own_bs (own_g [y14_0, y16_1, y16_2, y15_3] vq) 4 (if dn = 4 then 0 else dn) (if dn = 4 then 0 else 4)))), .unset] [(.int (4 : Int32)), (.int (Int32.ofNat dn)), (.int (1 : Int32)), (.ref b3), (.int ((Int32.ofNat dn) + (own_in0 b3 (Int32.ofNat dn) (4 : Int32) vq y14_0 y16_1 y16_2 y15_3)))])) _
        refine XS.lload X261.here hx rfl (hb hby at_227) rfl ?_
        show Steps p.tables e below (T261.setTop (mkF m 229 #[.val (.long va_), .second, .val (.long vb_), .second, .val (.long vc_), .second, .val (.long ve_), .second, .val (.long vq), .second, .val (.int vctl), .val (.int (4 : Int32)), .val (.int (Int32.ofNat dn)), .val (.ref b3), .val (.ref b17), .val (.ref b43), .val (.int (Int32.ofNat (own_bs (own_g [y14_0, y16_1, y16_2, y15_3] vq) 4 (if dn = 4 then 0 else dn) (if dn = 4 then 0 else 4)))), .unset] [(.long vq), (.int (4 : Int32)), (.int (Int32.ofNat dn)), (.int (1 : Int32)), (.ref b3), (.int ((Int32.ofNat dn) + (own_in0 b3 (Int32.ofNat dn) (4 : Int32) vq y14_0 y16_1 y16_2 y15_3)))])) _
        refine st262 _ ?_
        show Steps p.tables e below (T262.setTop (mkF m 232 #[.val (.long va_), .second, .val (.long vb_), .second, .val (.long vc_), .second, .val (.long ve_), .second, .val (.long vq), .second, .val (.int vctl), .val (.int (4 : Int32)), .val (.int (Int32.ofNat dn)), .val (.ref b3), .val (.ref b17), .val (.ref b43), .val (.int (Int32.ofNat (own_bs (own_g [y14_0, y16_1, y16_2, y15_3] vq) 4 (if dn = 4 then 0 else dn) (if dn = 4 then 0 else 4)))), .unset] [(.int (own_in1 b3 (Int32.ofNat dn) (4 : Int32) vq y14_0 y16_1 y16_2 y15_3)), (.int ((Int32.ofNat dn) + (own_in0 b3 (Int32.ofNat dn) (4 : Int32) vq y14_0 y16_1 y16_2 y15_3)))])) _
        refine XS.iadd X262.here hx rfl (hb hby at_232) rfl ?_
        show Steps p.tables e below (T262.setTop (mkF m 233 #[.val (.long va_), .second, .val (.long vb_), .second, .val (.long vc_), .second, .val (.long ve_), .second, .val (.long vq), .second, .val (.int vctl), .val (.int (4 : Int32)), .val (.int (Int32.ofNat dn)), .val (.ref b3), .val (.ref b17), .val (.ref b43), .val (.int (Int32.ofNat (own_bs (own_g [y14_0, y16_1, y16_2, y15_3] vq) 4 (if dn = 4 then 0 else dn) (if dn = 4 then 0 else 4)))), .unset] [(.int (((Int32.ofNat dn) + (own_in0 b3 (Int32.ofNat dn) (4 : Int32) vq y14_0 y16_1 y16_2 y15_3)) + (own_in1 b3 (Int32.ofNat dn) (4 : Int32) vq y14_0 y16_1 y16_2 y15_3)))])) _
        refine XS.aload X262.here hx rfl (hb hby at_233) rfl rfl ?_
        show Steps p.tables e below (T262.setTop (mkF m 235 #[.val (.long va_), .second, .val (.long vb_), .second, .val (.long vc_), .second, .val (.long ve_), .second, .val (.long vq), .second, .val (.int vctl), .val (.int (4 : Int32)), .val (.int (Int32.ofNat dn)), .val (.ref b3), .val (.ref b17), .val (.ref b43), .val (.int (Int32.ofNat (own_bs (own_g [y14_0, y16_1, y16_2, y15_3] vq) 4 (if dn = 4 then 0 else dn) (if dn = 4 then 0 else 4)))), .unset] [(.ref b3), (.int (((Int32.ofNat dn) + (own_in0 b3 (Int32.ofNat dn) (4 : Int32) vq y14_0 y16_1 y16_2 y15_3)) + (own_in1 b3 (Int32.ofNat dn) (4 : Int32) vq y14_0 y16_1 y16_2 y15_3)))])) _
        refine XS.iconst X262.here hx rfl (hb hby at_235) ?_
        show Steps p.tables e below (T262.setTop (mkF m 236 #[.val (.long va_), .second, .val (.long vb_), .second, .val (.long vc_), .second, .val (.long ve_), .second, .val (.long vq), .second, .val (.int vctl), .val (.int (4 : Int32)), .val (.int (Int32.ofNat dn)), .val (.ref b3), .val (.ref b17), .val (.ref b43), .val (.int (Int32.ofNat (own_bs (own_g [y14_0, y16_1, y16_2, y15_3] vq) 4 (if dn = 4 then 0 else dn) (if dn = 4 then 0 else 4)))), .unset] [(.int (2 : Int32)), (.ref b3), (.int (((Int32.ofNat dn) + (own_in0 b3 (Int32.ofNat dn) (4 : Int32) vq y14_0 y16_1 y16_2 y15_3)) + (own_in1 b3 (Int32.ofNat dn) (4 : Int32) vq y14_0 y16_1 y16_2 y15_3)))])) _
        refine XS.iload X262.here hx rfl (hb hby at_236) rfl ?_
        show Steps p.tables e below (T262.setTop (mkF m 238 #[.val (.long va_), .second, .val (.long vb_), .second, .val (.long vc_), .second, .val (.long ve_), .second, .val (.long vq), .second, .val (.int vctl), .val (.int (4 : Int32)), .val (.int (Int32.ofNat dn)), .val (.ref b3), .val (.ref b17), .val (.ref b43), .val (.int (Int32.ofNat (own_bs (own_g [y14_0, y16_1, y16_2, y15_3] vq) 4 (if dn = 4 then 0 else dn) (if dn = 4 then 0 else 4)))), .unset] [(.int (Int32.ofNat dn)), (.int (2 : Int32)), (.ref b3), (.int (((Int32.ofNat dn) + (own_in0 b3 (Int32.ofNat dn) (4 : Int32) vq y14_0 y16_1 y16_2 y15_3)) + (own_in1 b3 (Int32.ofNat dn) (4 : Int32) vq y14_0 y16_1 y16_2 y15_3)))])) _
        refine XS.iload X262.here hx rfl (hb hby at_238) rfl ?_
        show Steps p.tables e below (T262.setTop (mkF m 240 #[.val (.long va_), .second, .val (.long vb_), .second, .val (.long vc_), .second, .val (.long ve_), .second, .val (.long vq), .second, .val (.int vctl), .val (.int (4 : Int32)), .val (.int (Int32.ofNat dn)), .val (.ref b3), .val (.ref b17), .val (.ref b43), .val (.int (Int32.ofNat (own_bs (own_g [y14_0, y16_1, y16_2, y15_3] vq) 4 (if dn = 4 then 0 else dn) (if dn = 4 then 0 else 4)))), .unset] [(.int (4 : Int32)), (.int (Int32.ofNat dn)), (.int (2 : Int32)), (.ref b3), (.int (((Int32.ofNat dn) + (own_in0 b3 (Int32.ofNat dn) (4 : Int32) vq y14_0 y16_1 y16_2 y15_3)) + (own_in1 b3 (Int32.ofNat dn) (4 : Int32) vq y14_0 y16_1 y16_2 y15_3)))])) _
        refine XS.lload X262.here hx rfl (hb hby at_240) rfl ?_
        show Steps p.tables e below (T262.setTop (mkF m 242 #[.val (.long va_), .second, .val (.long vb_), .second, .val (.long vc_), .second, .val (.long ve_), .second, .val (.long vq), .second, .val (.int vctl), .val (.int (4 : Int32)), .val (.int (Int32.ofNat dn)), .val (.ref b3), .val (.ref b17), .val (.ref b43), .val (.int (Int32.ofNat (own_bs (own_g [y14_0, y16_1, y16_2, y15_3] vq) 4 (if dn = 4 then 0 else dn) (if dn = 4 then 0 else 4)))), .unset] [(.long vq), (.int (4 : Int32)), (.int (Int32.ofNat dn)), (.int (2 : Int32)), (.ref b3), (.int (((Int32.ofNat dn) + (own_in0 b3 (Int32.ofNat dn) (4 : Int32) vq y14_0 y16_1 y16_2 y15_3)) + (own_in1 b3 (Int32.ofNat dn) (4 : Int32) vq y14_0 y16_1 y16_2 y15_3)))])) _
        refine st263 _ ?_
        show Steps p.tables e below (T263.setTop (mkF m 245 #[.val (.long va_), .second, .val (.long vb_), .second, .val (.long vc_), .second, .val (.long ve_), .second, .val (.long vq), .second, .val (.int vctl), .val (.int (4 : Int32)), .val (.int (Int32.ofNat dn)), .val (.ref b3), .val (.ref b17), .val (.ref b43), .val (.int (Int32.ofNat (own_bs (own_g [y14_0, y16_1, y16_2, y15_3] vq) 4 (if dn = 4 then 0 else dn) (if dn = 4 then 0 else 4)))), .unset] [(.int (own_in2 b3 (Int32.ofNat dn) (4 : Int32) vq y14_0 y16_1 y16_2 y15_3)), (.int (((Int32.ofNat dn) + (own_in0 b3 (Int32.ofNat dn) (4 : Int32) vq y14_0 y16_1 y16_2 y15_3)) + (own_in1 b3 (Int32.ofNat dn) (4 : Int32) vq y14_0 y16_1 y16_2 y15_3)))])) _
        refine XS.iadd X263.here hx rfl (hb hby at_245) rfl ?_
        show Steps p.tables e below (T263.setTop (mkF m 246 #[.val (.long va_), .second, .val (.long vb_), .second, .val (.long vc_), .second, .val (.long ve_), .second, .val (.long vq), .second, .val (.int vctl), .val (.int (4 : Int32)), .val (.int (Int32.ofNat dn)), .val (.ref b3), .val (.ref b17), .val (.ref b43), .val (.int (Int32.ofNat (own_bs (own_g [y14_0, y16_1, y16_2, y15_3] vq) 4 (if dn = 4 then 0 else dn) (if dn = 4 then 0 else 4)))), .unset] [(.int ((((Int32.ofNat dn) + (own_in0 b3 (Int32.ofNat dn) (4 : Int32) vq y14_0 y16_1 y16_2 y15_3)) + (own_in1 b3 (Int32.ofNat dn) (4 : Int32) vq y14_0 y16_1 y16_2 y15_3)) + (own_in2 b3 (Int32.ofNat dn) (4 : Int32) vq y14_0 y16_1 y16_2 y15_3)))])) _
        refine XS.aload X263.here hx rfl (hb hby at_246) rfl rfl ?_
        show Steps p.tables e below (T263.setTop (mkF m 248 #[.val (.long va_), .second, .val (.long vb_), .second, .val (.long vc_), .second, .val (.long ve_), .second, .val (.long vq), .second, .val (.int vctl), .val (.int (4 : Int32)), .val (.int (Int32.ofNat dn)), .val (.ref b3), .val (.ref b17), .val (.ref b43), .val (.int (Int32.ofNat (own_bs (own_g [y14_0, y16_1, y16_2, y15_3] vq) 4 (if dn = 4 then 0 else dn) (if dn = 4 then 0 else 4)))), .unset] [(.ref b3), (.int ((((Int32.ofNat dn) + (own_in0 b3 (Int32.ofNat dn) (4 : Int32) vq y14_0 y16_1 y16_2 y15_3)) + (own_in1 b3 (Int32.ofNat dn) (4 : Int32) vq y14_0 y16_1 y16_2 y15_3)) + (own_in2 b3 (Int32.ofNat dn) (4 : Int32) vq y14_0 y16_1 y16_2 y15_3)))])) _
        refine XS.iconst X263.here hx rfl (hb hby at_248) ?_
        show Steps p.tables e below (T263.setTop (mkF m 249 #[.val (.long va_), .second, .val (.long vb_), .second, .val (.long vc_), .second, .val (.long ve_), .second, .val (.long vq), .second, .val (.int vctl), .val (.int (4 : Int32)), .val (.int (Int32.ofNat dn)), .val (.ref b3), .val (.ref b17), .val (.ref b43), .val (.int (Int32.ofNat (own_bs (own_g [y14_0, y16_1, y16_2, y15_3] vq) 4 (if dn = 4 then 0 else dn) (if dn = 4 then 0 else 4)))), .unset] [(.int (3 : Int32)), (.ref b3), (.int ((((Int32.ofNat dn) + (own_in0 b3 (Int32.ofNat dn) (4 : Int32) vq y14_0 y16_1 y16_2 y15_3)) + (own_in1 b3 (Int32.ofNat dn) (4 : Int32) vq y14_0 y16_1 y16_2 y15_3)) + (own_in2 b3 (Int32.ofNat dn) (4 : Int32) vq y14_0 y16_1 y16_2 y15_3)))])) _
        refine XS.iload X263.here hx rfl (hb hby at_249) rfl ?_
        show Steps p.tables e below (T263.setTop (mkF m 251 #[.val (.long va_), .second, .val (.long vb_), .second, .val (.long vc_), .second, .val (.long ve_), .second, .val (.long vq), .second, .val (.int vctl), .val (.int (4 : Int32)), .val (.int (Int32.ofNat dn)), .val (.ref b3), .val (.ref b17), .val (.ref b43), .val (.int (Int32.ofNat (own_bs (own_g [y14_0, y16_1, y16_2, y15_3] vq) 4 (if dn = 4 then 0 else dn) (if dn = 4 then 0 else 4)))), .unset] [(.int (Int32.ofNat dn)), (.int (3 : Int32)), (.ref b3), (.int ((((Int32.ofNat dn) + (own_in0 b3 (Int32.ofNat dn) (4 : Int32) vq y14_0 y16_1 y16_2 y15_3)) + (own_in1 b3 (Int32.ofNat dn) (4 : Int32) vq y14_0 y16_1 y16_2 y15_3)) + (own_in2 b3 (Int32.ofNat dn) (4 : Int32) vq y14_0 y16_1 y16_2 y15_3)))])) _
        refine XS.iload X263.here hx rfl (hb hby at_251) rfl ?_
        show Steps p.tables e below (T263.setTop (mkF m 253 #[.val (.long va_), .second, .val (.long vb_), .second, .val (.long vc_), .second, .val (.long ve_), .second, .val (.long vq), .second, .val (.int vctl), .val (.int (4 : Int32)), .val (.int (Int32.ofNat dn)), .val (.ref b3), .val (.ref b17), .val (.ref b43), .val (.int (Int32.ofNat (own_bs (own_g [y14_0, y16_1, y16_2, y15_3] vq) 4 (if dn = 4 then 0 else dn) (if dn = 4 then 0 else 4)))), .unset] [(.int (4 : Int32)), (.int (Int32.ofNat dn)), (.int (3 : Int32)), (.ref b3), (.int ((((Int32.ofNat dn) + (own_in0 b3 (Int32.ofNat dn) (4 : Int32) vq y14_0 y16_1 y16_2 y15_3)) + (own_in1 b3 (Int32.ofNat dn) (4 : Int32) vq y14_0 y16_1 y16_2 y15_3)) + (own_in2 b3 (Int32.ofNat dn) (4 : Int32) vq y14_0 y16_1 y16_2 y15_3)))])) _
        refine XS.lload X263.here hx rfl (hb hby at_253) rfl ?_
        show Steps p.tables e below (T263.setTop (mkF m 255 #[.val (.long va_), .second, .val (.long vb_), .second, .val (.long vc_), .second, .val (.long ve_), .second, .val (.long vq), .second, .val (.int vctl), .val (.int (4 : Int32)), .val (.int (Int32.ofNat dn)), .val (.ref b3), .val (.ref b17), .val (.ref b43), .val (.int (Int32.ofNat (own_bs (own_g [y14_0, y16_1, y16_2, y15_3] vq) 4 (if dn = 4 then 0 else dn) (if dn = 4 then 0 else 4)))), .unset] [(.long vq), (.int (4 : Int32)), (.int (Int32.ofNat dn)), (.int (3 : Int32)), (.ref b3), (.int ((((Int32.ofNat dn) + (own_in0 b3 (Int32.ofNat dn) (4 : Int32) vq y14_0 y16_1 y16_2 y15_3)) + (own_in1 b3 (Int32.ofNat dn) (4 : Int32) vq y14_0 y16_1 y16_2 y15_3)) + (own_in2 b3 (Int32.ofNat dn) (4 : Int32) vq y14_0 y16_1 y16_2 y15_3)))])) _
        refine st264 _ ?_
        show Steps p.tables e below (T264.setTop (mkF m 258 #[.val (.long va_), .second, .val (.long vb_), .second, .val (.long vc_), .second, .val (.long ve_), .second, .val (.long vq), .second, .val (.int vctl), .val (.int (4 : Int32)), .val (.int (Int32.ofNat dn)), .val (.ref b3), .val (.ref b17), .val (.ref b43), .val (.int (Int32.ofNat (own_bs (own_g [y14_0, y16_1, y16_2, y15_3] vq) 4 (if dn = 4 then 0 else dn) (if dn = 4 then 0 else 4)))), .unset] [(.int (own_in3 b3 (Int32.ofNat dn) (4 : Int32) vq y14_0 y16_1 y16_2 y15_3)), (.int ((((Int32.ofNat dn) + (own_in0 b3 (Int32.ofNat dn) (4 : Int32) vq y14_0 y16_1 y16_2 y15_3)) + (own_in1 b3 (Int32.ofNat dn) (4 : Int32) vq y14_0 y16_1 y16_2 y15_3)) + (own_in2 b3 (Int32.ofNat dn) (4 : Int32) vq y14_0 y16_1 y16_2 y15_3)))])) _
        refine XS.iadd X264.here hx rfl (hb hby at_258) rfl ?_
        show Steps p.tables e below (T264.setTop (mkF m 259 #[.val (.long va_), .second, .val (.long vb_), .second, .val (.long vc_), .second, .val (.long ve_), .second, .val (.long vq), .second, .val (.int vctl), .val (.int (4 : Int32)), .val (.int (Int32.ofNat dn)), .val (.ref b3), .val (.ref b17), .val (.ref b43), .val (.int (Int32.ofNat (own_bs (own_g [y14_0, y16_1, y16_2, y15_3] vq) 4 (if dn = 4 then 0 else dn) (if dn = 4 then 0 else 4)))), .unset] [(.int (((((Int32.ofNat dn) + (own_in0 b3 (Int32.ofNat dn) (4 : Int32) vq y14_0 y16_1 y16_2 y15_3)) + (own_in1 b3 (Int32.ofNat dn) (4 : Int32) vq y14_0 y16_1 y16_2 y15_3)) + (own_in2 b3 (Int32.ofNat dn) (4 : Int32) vq y14_0 y16_1 y16_2 y15_3)) + (own_in3 b3 (Int32.ofNat dn) (4 : Int32) vq y14_0 y16_1 y16_2 y15_3)))])) _
        refine XS.goto X264.here hx rfl (pc0 := 259) (pc' := 263) rfl (hb hby at_259) (by decide) (by decide) ?_
        show Steps p.tables e below (T264.setTop (mkF m 263 #[.val (.long va_), .second, .val (.long vb_), .second, .val (.long vc_), .second, .val (.long ve_), .second, .val (.long vq), .second, .val (.int vctl), .val (.int (4 : Int32)), .val (.int (Int32.ofNat dn)), .val (.ref b3), .val (.ref b17), .val (.ref b43), .val (.int (Int32.ofNat (own_bs (own_g [y14_0, y16_1, y16_2, y15_3] vq) 4 (if dn = 4 then 0 else dn) (if dn = 4 then 0 else 4)))), .unset] [(.int (((((Int32.ofNat dn) + (own_in0 b3 (Int32.ofNat dn) (4 : Int32) vq y14_0 y16_1 y16_2 y15_3)) + (own_in1 b3 (Int32.ofNat dn) (4 : Int32) vq y14_0 y16_1 y16_2 y15_3)) + (own_in2 b3 (Int32.ofNat dn) (4 : Int32) vq y14_0 y16_1 y16_2 y15_3)) + (own_in3 b3 (Int32.ofNat dn) (4 : Int32) vq y14_0 y16_1 y16_2 y15_3)))])) _
        refine XS.istore X264.here hx rfl (hb hby at_263) rfl (l' := #[.val (.long va_), .second, .val (.long vb_), .second, .val (.long vc_), .second, .val (.long ve_), .second, .val (.long vq), .second, .val (.int vctl), .val (.int (4 : Int32)), .val (.int (Int32.ofNat dn)), .val (.ref b3), .val (.ref b17), .val (.ref b43), .val (.int (Int32.ofNat (own_bs (own_g [y14_0, y16_1, y16_2, y15_3] vq) 4 (if dn = 4 then 0 else dn) (if dn = 4 then 0 else 4)))), .val (.int (((((Int32.ofNat dn) + (own_in0 b3 (Int32.ofNat dn) (4 : Int32) vq y14_0 y16_1 y16_2 y15_3)) + (own_in1 b3 (Int32.ofNat dn) (4 : Int32) vq y14_0 y16_1 y16_2 y15_3)) + (own_in2 b3 (Int32.ofNat dn) (4 : Int32) vq y14_0 y16_1 y16_2 y15_3)) + (own_in3 b3 (Int32.ofNat dn) (4 : Int32) vq y14_0 y16_1 y16_2 y15_3)))]) rfl ?_
        show Steps p.tables e below (T264.setTop (mkF m 265 #[.val (.long va_), .second, .val (.long vb_), .second, .val (.long vc_), .second, .val (.long ve_), .second, .val (.long vq), .second, .val (.int vctl), .val (.int (4 : Int32)), .val (.int (Int32.ofNat dn)), .val (.ref b3), .val (.ref b17), .val (.ref b43), .val (.int (Int32.ofNat (own_bs (own_g [y14_0, y16_1, y16_2, y15_3] vq) 4 (if dn = 4 then 0 else dn) (if dn = 4 then 0 else 4)))), .val (.int (((((Int32.ofNat dn) + (own_in0 b3 (Int32.ofNat dn) (4 : Int32) vq y14_0 y16_1 y16_2 y15_3)) + (own_in1 b3 (Int32.ofNat dn) (4 : Int32) vq y14_0 y16_1 y16_2 y15_3)) + (own_in2 b3 (Int32.ofNat dn) (4 : Int32) vq y14_0 y16_1 y16_2 y15_3)) + (own_in3 b3 (Int32.ofNat dn) (4 : Int32) vq y14_0 y16_1 y16_2 y15_3)))] [])) _
        refine XS.iload X264.here hx rfl (hb hby at_265) rfl ?_
        show Steps p.tables e below (T264.setTop (mkF m 267 #[.val (.long va_), .second, .val (.long vb_), .second, .val (.long vc_), .second, .val (.long ve_), .second, .val (.long vq), .second, .val (.int vctl), .val (.int (4 : Int32)), .val (.int (Int32.ofNat dn)), .val (.ref b3), .val (.ref b17), .val (.ref b43), .val (.int (Int32.ofNat (own_bs (own_g [y14_0, y16_1, y16_2, y15_3] vq) 4 (if dn = 4 then 0 else dn) (if dn = 4 then 0 else 4)))), .val (.int (((((Int32.ofNat dn) + (own_in0 b3 (Int32.ofNat dn) (4 : Int32) vq y14_0 y16_1 y16_2 y15_3)) + (own_in1 b3 (Int32.ofNat dn) (4 : Int32) vq y14_0 y16_1 y16_2 y15_3)) + (own_in2 b3 (Int32.ofNat dn) (4 : Int32) vq y14_0 y16_1 y16_2 y15_3)) + (own_in3 b3 (Int32.ofNat dn) (4 : Int32) vq y14_0 y16_1 y16_2 y15_3)))] [(.int (Int32.ofNat (own_bs (own_g [y14_0, y16_1, y16_2, y15_3] vq) 4 (if dn = 4 then 0 else dn) (if dn = 4 then 0 else 4))))])) _
        refine XS.iload X264.here hx rfl (hb hby at_267) rfl ?_
        show Steps p.tables e below (T264.setTop (mkF m 269 #[.val (.long va_), .second, .val (.long vb_), .second, .val (.long vc_), .second, .val (.long ve_), .second, .val (.long vq), .second, .val (.int vctl), .val (.int (4 : Int32)), .val (.int (Int32.ofNat dn)), .val (.ref b3), .val (.ref b17), .val (.ref b43), .val (.int (Int32.ofNat (own_bs (own_g [y14_0, y16_1, y16_2, y15_3] vq) 4 (if dn = 4 then 0 else dn) (if dn = 4 then 0 else 4)))), .val (.int (((((Int32.ofNat dn) + (own_in0 b3 (Int32.ofNat dn) (4 : Int32) vq y14_0 y16_1 y16_2 y15_3)) + (own_in1 b3 (Int32.ofNat dn) (4 : Int32) vq y14_0 y16_1 y16_2 y15_3)) + (own_in2 b3 (Int32.ofNat dn) (4 : Int32) vq y14_0 y16_1 y16_2 y15_3)) + (own_in3 b3 (Int32.ofNat dn) (4 : Int32) vq y14_0 y16_1 y16_2 y15_3)))] [(.int (((((Int32.ofNat dn) + (own_in0 b3 (Int32.ofNat dn) (4 : Int32) vq y14_0 y16_1 y16_2 y15_3)) + (own_in1 b3 (Int32.ofNat dn) (4 : Int32) vq y14_0 y16_1 y16_2 y15_3)) + (own_in2 b3 (Int32.ofNat dn) (4 : Int32) vq y14_0 y16_1 y16_2 y15_3)) + (own_in3 b3 (Int32.ofNat dn) (4 : Int32) vq y14_0 y16_1 y16_2 y15_3))), (.int (Int32.ofNat (own_bs (own_g [y14_0, y16_1, y16_2, y15_3] vq) 4 (if dn = 4 then 0 else dn) (if dn = 4 then 0 else 4))))])) _
        refine XS.icmpNo X264.here hx rfl (hb hby at_269) rfl (teq ((own_fin4t dn hdn hc260 s01 s12 s23) : (Int32.ofNat (own_bs (own_g [y14_0, y16_1, y16_2, y15_3] vq) 4 (if dn = 4 then 0 else dn) (if dn = 4 then 0 else 4))) = (((((Int32.ofNat dn) + (own_in0 b3 (Int32.ofNat dn) (4 : Int32) vq y14_0 y16_1 y16_2 y15_3)) + (own_in1 b3 (Int32.ofNat dn) (4 : Int32) vq y14_0 y16_1 y16_2 y15_3)) + (own_in2 b3 (Int32.ofNat dn) (4 : Int32) vq y14_0 y16_1 y16_2 y15_3)) + (own_in3 b3 (Int32.ofNat dn) (4 : Int32) vq y14_0 y16_1 y16_2 y15_3)))).2 ?_
        show Steps p.tables e below (T264.setTop (mkF m 272 #[.val (.long va_), .second, .val (.long vb_), .second, .val (.long vc_), .second, .val (.long ve_), .second, .val (.long vq), .second, .val (.int vctl), .val (.int (4 : Int32)), .val (.int (Int32.ofNat dn)), .val (.ref b3), .val (.ref b17), .val (.ref b43), .val (.int (Int32.ofNat (own_bs (own_g [y14_0, y16_1, y16_2, y15_3] vq) 4 (if dn = 4 then 0 else dn) (if dn = 4 then 0 else 4)))), .val (.int (((((Int32.ofNat dn) + (own_in0 b3 (Int32.ofNat dn) (4 : Int32) vq y14_0 y16_1 y16_2 y15_3)) + (own_in1 b3 (Int32.ofNat dn) (4 : Int32) vq y14_0 y16_1 y16_2 y15_3)) + (own_in2 b3 (Int32.ofNat dn) (4 : Int32) vq y14_0 y16_1 y16_2 y15_3)) + (own_in3 b3 (Int32.ofNat dn) (4 : Int32) vq y14_0 y16_1 y16_2 y15_3)))] [])) _
        refine XS.iconst X264.here hx rfl (hb hby at_272) ?_
        show Steps p.tables e below (T264.setTop (mkF m 273 #[.val (.long va_), .second, .val (.long vb_), .second, .val (.long vc_), .second, .val (.long ve_), .second, .val (.long vq), .second, .val (.int vctl), .val (.int (4 : Int32)), .val (.int (Int32.ofNat dn)), .val (.ref b3), .val (.ref b17), .val (.ref b43), .val (.int (Int32.ofNat (own_bs (own_g [y14_0, y16_1, y16_2, y15_3] vq) 4 (if dn = 4 then 0 else dn) (if dn = 4 then 0 else 4)))), .val (.int (((((Int32.ofNat dn) + (own_in0 b3 (Int32.ofNat dn) (4 : Int32) vq y14_0 y16_1 y16_2 y15_3)) + (own_in1 b3 (Int32.ofNat dn) (4 : Int32) vq y14_0 y16_1 y16_2 y15_3)) + (own_in2 b3 (Int32.ofNat dn) (4 : Int32) vq y14_0 y16_1 y16_2 y15_3)) + (own_in3 b3 (Int32.ofNat dn) (4 : Int32) vq y14_0 y16_1 y16_2 y15_3)))] [(.int (1 : Int32))])) _
        refine XS.goto X264.here hx rfl (pc0 := 273) (pc' := 277) rfl (hb hby at_273) (by decide) (by decide) ?_
        show Steps p.tables e below (T264.setTop (mkF m 277 #[.val (.long va_), .second, .val (.long vb_), .second, .val (.long vc_), .second, .val (.long ve_), .second, .val (.long vq), .second, .val (.int vctl), .val (.int (4 : Int32)), .val (.int (Int32.ofNat dn)), .val (.ref b3), .val (.ref b17), .val (.ref b43), .val (.int (Int32.ofNat (own_bs (own_g [y14_0, y16_1, y16_2, y15_3] vq) 4 (if dn = 4 then 0 else dn) (if dn = 4 then 0 else 4)))), .val (.int (((((Int32.ofNat dn) + (own_in0 b3 (Int32.ofNat dn) (4 : Int32) vq y14_0 y16_1 y16_2 y15_3)) + (own_in1 b3 (Int32.ofNat dn) (4 : Int32) vq y14_0 y16_1 y16_2 y15_3)) + (own_in2 b3 (Int32.ofNat dn) (4 : Int32) vq y14_0 y16_1 y16_2 y15_3)) + (own_in3 b3 (Int32.ofNat dn) (4 : Int32) vq y14_0 y16_1 y16_2 y15_3)))] [(.int (1 : Int32))])) _
        exact retN X264 hx (t := .boolean) Bd.returns (by simp) (hb hby at_277) hr
      ·
        show Q0 Z va_ vb_ vc_ ve_ vq vctl vN kN h0 n0 _ T264.heap _
        rw [e264q]
        exact ⟨rfl, N264⟩
    ·
      obtain ⟨fs, hr, hrun, hended, hW, hsame⟩ := X248.leave (v := some (.int (1 : Int32))) (fun h => by rw [Bd.returns] at h; cases h) (hlocks := BodyLoose.notSynchronized Bd)
      refine ⟨_, _, pre259 _ ?_, hrun, hended, _, _, rfl, ?_, ⟨_, rfl⟩, hW, hsame.mono (by decide) (by decide)⟩
      ·
        show Steps p.tables e below (T248.setTop (mkF m 202 #[.val (.long va_), .second, .val (.long vb_), .second, .val (.long vc_), .second, .val (.long ve_), .second, .val (.long vq), .second, .val (.int vctl), .val (.int (4 : Int32)), .val (.int (Int32.ofNat dn)), .val (.ref b3), .val (.ref b17), .val (.ref b43), .val (.int (Int32.ofNat (own_bs (own_g [y14_0, y16_1, y16_2, y15_3] vq) 4 (if dn = 4 then 0 else dn) (if dn = 4 then 0 else 4)))), .unset] [(.int (4 : Int32)), (.int (Int32.ofNat dn))])) _
        refine XS.icmpYes X248.here hx rfl (pc0 := 202) (pc' := 262) rfl (hb hby at_202) rfl (flt (hc260 : ¬ ((Int32.ofNat dn) < (4 : Int32)))).2.1 (by decide) (by decide) ?_
        show Steps p.tables e below (T248.setTop (mkF m 262 #[.val (.long va_), .second, .val (.long vb_), .second, .val (.long vc_), .second, .val (.long ve_), .second, .val (.long vq), .second, .val (.int vctl), .val (.int (4 : Int32)), .val (.int (Int32.ofNat dn)), .val (.ref b3), .val (.ref b17), .val (.ref b43), .val (.int (Int32.ofNat (own_bs (own_g [y14_0, y16_1, y16_2, y15_3] vq) 4 (if dn = 4 then 0 else dn) (if dn = 4 then 0 else 4)))), .unset] [])) _
        refine XS.iconst X248.here hx rfl (hb hby at_262) ?_
        show Steps p.tables e below (T248.setTop (mkF m 263 #[.val (.long va_), .second, .val (.long vb_), .second, .val (.long vc_), .second, .val (.long ve_), .second, .val (.long vq), .second, .val (.int vctl), .val (.int (4 : Int32)), .val (.int (Int32.ofNat dn)), .val (.ref b3), .val (.ref b17), .val (.ref b43), .val (.int (Int32.ofNat (own_bs (own_g [y14_0, y16_1, y16_2, y15_3] vq) 4 (if dn = 4 then 0 else dn) (if dn = 4 then 0 else 4)))), .unset] [(.int (0 : Int32))])) _
        refine XS.istore X248.here hx rfl (hb hby at_263) rfl (l' := #[.val (.long va_), .second, .val (.long vb_), .second, .val (.long vc_), .second, .val (.long ve_), .second, .val (.long vq), .second, .val (.int vctl), .val (.int (4 : Int32)), .val (.int (Int32.ofNat dn)), .val (.ref b3), .val (.ref b17), .val (.ref b43), .val (.int (Int32.ofNat (own_bs (own_g [y14_0, y16_1, y16_2, y15_3] vq) 4 (if dn = 4 then 0 else dn) (if dn = 4 then 0 else 4)))), .val (.int (0 : Int32))]) rfl ?_
        show Steps p.tables e below (T248.setTop (mkF m 265 #[.val (.long va_), .second, .val (.long vb_), .second, .val (.long vc_), .second, .val (.long ve_), .second, .val (.long vq), .second, .val (.int vctl), .val (.int (4 : Int32)), .val (.int (Int32.ofNat dn)), .val (.ref b3), .val (.ref b17), .val (.ref b43), .val (.int (Int32.ofNat (own_bs (own_g [y14_0, y16_1, y16_2, y15_3] vq) 4 (if dn = 4 then 0 else dn) (if dn = 4 then 0 else 4)))), .val (.int (0 : Int32))] [])) _
        refine XS.iload X248.here hx rfl (hb hby at_265) rfl ?_
        show Steps p.tables e below (T248.setTop (mkF m 267 #[.val (.long va_), .second, .val (.long vb_), .second, .val (.long vc_), .second, .val (.long ve_), .second, .val (.long vq), .second, .val (.int vctl), .val (.int (4 : Int32)), .val (.int (Int32.ofNat dn)), .val (.ref b3), .val (.ref b17), .val (.ref b43), .val (.int (Int32.ofNat (own_bs (own_g [y14_0, y16_1, y16_2, y15_3] vq) 4 (if dn = 4 then 0 else dn) (if dn = 4 then 0 else 4)))), .val (.int (0 : Int32))] [(.int (Int32.ofNat (own_bs (own_g [y14_0, y16_1, y16_2, y15_3] vq) 4 (if dn = 4 then 0 else dn) (if dn = 4 then 0 else 4))))])) _
        refine XS.iload X248.here hx rfl (hb hby at_267) rfl ?_
        show Steps p.tables e below (T248.setTop (mkF m 269 #[.val (.long va_), .second, .val (.long vb_), .second, .val (.long vc_), .second, .val (.long ve_), .second, .val (.long vq), .second, .val (.int vctl), .val (.int (4 : Int32)), .val (.int (Int32.ofNat dn)), .val (.ref b3), .val (.ref b17), .val (.ref b43), .val (.int (Int32.ofNat (own_bs (own_g [y14_0, y16_1, y16_2, y15_3] vq) 4 (if dn = 4 then 0 else dn) (if dn = 4 then 0 else 4)))), .val (.int (0 : Int32))] [(.int (0 : Int32)), (.int (Int32.ofNat (own_bs (own_g [y14_0, y16_1, y16_2, y15_3] vq) 4 (if dn = 4 then 0 else dn) (if dn = 4 then 0 else 4))))])) _
        refine XS.icmpNo X248.here hx rfl (hb hby at_269) rfl (teq ((own_fin4f dn hdn hc260 s01 s12 s23) : (Int32.ofNat (own_bs (own_g [y14_0, y16_1, y16_2, y15_3] vq) 4 (if dn = 4 then 0 else dn) (if dn = 4 then 0 else 4))) = (0 : Int32))).2 ?_
        show Steps p.tables e below (T248.setTop (mkF m 272 #[.val (.long va_), .second, .val (.long vb_), .second, .val (.long vc_), .second, .val (.long ve_), .second, .val (.long vq), .second, .val (.int vctl), .val (.int (4 : Int32)), .val (.int (Int32.ofNat dn)), .val (.ref b3), .val (.ref b17), .val (.ref b43), .val (.int (Int32.ofNat (own_bs (own_g [y14_0, y16_1, y16_2, y15_3] vq) 4 (if dn = 4 then 0 else dn) (if dn = 4 then 0 else 4)))), .val (.int (0 : Int32))] [])) _
        refine XS.iconst X248.here hx rfl (hb hby at_272) ?_
        show Steps p.tables e below (T248.setTop (mkF m 273 #[.val (.long va_), .second, .val (.long vb_), .second, .val (.long vc_), .second, .val (.long ve_), .second, .val (.long vq), .second, .val (.int vctl), .val (.int (4 : Int32)), .val (.int (Int32.ofNat dn)), .val (.ref b3), .val (.ref b17), .val (.ref b43), .val (.int (Int32.ofNat (own_bs (own_g [y14_0, y16_1, y16_2, y15_3] vq) 4 (if dn = 4 then 0 else dn) (if dn = 4 then 0 else 4)))), .val (.int (0 : Int32))] [(.int (1 : Int32))])) _
        refine XS.goto X248.here hx rfl (pc0 := 273) (pc' := 277) rfl (hb hby at_273) (by decide) (by decide) ?_
        show Steps p.tables e below (T248.setTop (mkF m 277 #[.val (.long va_), .second, .val (.long vb_), .second, .val (.long vc_), .second, .val (.long ve_), .second, .val (.long vq), .second, .val (.int vctl), .val (.int (4 : Int32)), .val (.int (Int32.ofNat dn)), .val (.ref b3), .val (.ref b17), .val (.ref b43), .val (.int (Int32.ofNat (own_bs (own_g [y14_0, y16_1, y16_2, y15_3] vq) 4 (if dn = 4 then 0 else dn) (if dn = 4 then 0 else 4)))), .val (.int (0 : Int32))] [(.int (1 : Int32))])) _
        exact retN X248 hx (t := .boolean) Bd.returns (by simp) (hb hby at_277) hr
      ·
        show Q0 Z va_ vb_ vc_ ve_ vq vctl vN kN h0 n0 _ T248.heap _
        exact ⟨rfl, N248⟩
set_option maxRecDepth 65536 in
set_option maxHeartbeats 40000000 in
theorem comes_1 {Post : Tables → Env → Array Value → State → Outcome → State → Prop} (hpost : ∀ tb e args s v u, (limb_1_1.after args s (.returned v) u = true ∧ limb_1_2.after args s (.returned v) u = true ∧ True) → FrameEnd s (.returned v) u (Jvm.fieldLocs frame_1_writes args s ++ Jvm.arrayLocs frame_1_arrays args s ++ Jvm.staticLocs frame_1_statics s) 24 192 → Post tb e args s (.returned v) u) :
    ArmFor flags0 classFile x code maxLocals ret World_1 tables_1 room_1 Calls_1 rest_1 Pre_1 Post := by
  intro l hfl _ _ p e ha hc hk s m args below hf hA hF happ hP
  obtain ⟨hcalls, hrest, hpre⟩ := hP
  obtain ⟨-, -, -, hnamed, -, -, -, hat⟩ := (Spec.applies_iff hf).mp happ
  obtain ⟨hg, hn⟩ := and_e (Cond.before_iff.mp (show (Jvm.Cond.and given_1 narrow_1).before args s = true from hpre))
  obtain ⟨g1a, g1b⟩ := and_e hg
  obtain ⟨g2a, g2b⟩ := and_e g1b
  obtain ⟨g3a, g3b⟩ := and_e g2b
  obtain ⟨g4a, g4b⟩ := and_e g3b
  obtain ⟨g5a, g5b⟩ := and_e g4b
  obtain ⟨g6a, g6b⟩ := and_e g5b
  obtain ⟨g7a, g7b⟩ := and_e hn
  obtain ⟨g8a, g8b⟩ := and_e g7b
  obtain ⟨w0, w1, w2, w3, w4, w5, rfl⟩ : ∃ w0 w1 w2 w3 w4 w5 : Value, args = #[w0, w1, w2, w3, w4, w5] := by
    have hs : args.size = 6 := by simpa [Cond.value, given_1] using g1a
    obtain ⟨L⟩ := args
    match L, hs with
    | [w0, w1, w2, w3, w4, w5], _ => exact ⟨w0, w1, w2, w3, w4, w5, rfl⟩
  have hw := fun d (hd : d ∈ tables_1) => atoms_spec (ws := Jvm.Cond.code x code maxLocals ret :: tables_1) hat d (List.mem_cons_of_mem _ hd)
  have hfit : Fit s := fun {y c} hc i hi => by
    obtain ⟨ha, rfl⟩ := Array.getElem?_eq_some_iff.mp hc
    have q := List.all_eq_true.mp ((Array.all_eq_true_iff_forall_mem.mp hF) _ (Array.getElem_mem ha)) i (List.mem_range.mpr hi)
    simpa [Array.getElem?_eq_getElem hi] using q
  obtain ⟨va_, ei0⟩ := isL_v g2a
  obtain rfl : w0 = (.long va_) := Option.some.inj ei0
  obtain ⟨vb_, ei1⟩ := isL_v g3a
  obtain rfl : w1 = (.long vb_) := Option.some.inj ei1
  obtain ⟨vc_, ei2⟩ := isL_v g4a
  obtain rfl : w2 = (.long vc_) := Option.some.inj ei2
  obtain ⟨ve_, ei3⟩ := isL_v g5a
  obtain rfl : w3 = (.long ve_) := Option.some.inj ei3
  obtain ⟨vq, ei4⟩ := isL_v g6a
  obtain rfl : w4 = (.long vq) := Option.some.inj ei4
  obtain ⟨vctl, ei5⟩ := is_v g6b
  obtain rfl : w5 = (.int vctl) := Option.some.inj ei5
  obtain ⟨vN, evN⟩ := arr_v g7a
  have S_N : Sta s s.heap "com/example/causeline/causeline/core/Filing" "NOTHING" "[J" (.ref vN) := Sta.start evN (Or.inr ⟨(hw _ (List.mem_of_getElem? (i := 7) rfl)), (hw _ (List.mem_of_getElem? (i := 29) rfl))⟩)
  obtain ⟨cN, ArN⟩ := Arr.start evN g7a
  obtain ⟨kN, VN⟩ := own_none evN ArN hfit g8b
  obtain ⟨n, o, h1, h2, h3, _, L, rfl, ⟨rfl, N⟩, hq⟩ := rm0 l s _ hw tables_1 va_ vb_ vc_ ve_ vq vctl vN kN s.heap s.heap.size (Nat.le_refl _) S_N VN p e ha hc hk s m _ below hf ((Spec.applies_iff_loose hf).mp happ).1 ⟨rfl, State.Warmed39.refl s, rfl⟩ trivial
  refine ⟨n, _, h1, h2, h3, hpost _ _ _ _ _ _ ⟨Cond.after_iff.mpr rfl, Cond.after_iff.mpr (eq_i res_at (Term.int_eval (1)) rfl), trivial⟩ ⟨hq.1, hq.2.1, (hq.2.2.sift fun y hy => Or.inr (N y hy)).mono (by decide) (by decide)⟩⟩
theorem main_1_1 : Claimed_1_1 := comes_1 fun _ _ _ _ _ _ h hF => ⟨h.1, hF⟩
theorem main_1_2 : Claimed_1_2 := comes_1 fun _ _ _ _ _ _ h hF => ⟨h.2.1, hF⟩
end Jvm.Pilot.@@N@@
namespace Jvm.Pilot.@@N@@
open Jvm Jvm.ClassFile Sem Op Lib Jvm.Free Jvm.Stand Jvm.Pilot.@@N@@.Jvm.D
/-! MADE BY PROGRAM (witnessworld.py) out of the Statement's table words and the real class files: 15 classes; the members and pool entries that the words name. The judged class is class 1, her method 3. -/
namespace start1
open Jvm.ClassFile
def u (s : String) : CpInfo := .utf8 (stringToUtf16 s)
/-- a pool by its gaps: so many unusable entries, then the entry; so many at the end -/
def gap : Nat → List CpInfo → List CpInfo
  | 0, r => r
  | n + 1, r => .unusable :: gap n r
def poolList (es : List (Nat × CpInfo)) (last : Nat) : List CpInfo := es.foldr (fun e r => gap e.1 (e.2 :: r)) (gap last [])
def pool (es : List (Nat × CpInfo)) (last : Nat) : Array CpInfo := ⟨poolList es last⟩
def fileOf (pool : Array CpInfo) (this : Nat) (attrs : Array Attribute := #[]) (ms : Array MethodInfo := #[]) (fl : Nat := 33) (sup : Nat := 0) (ifs : Array Nat := #[]) (fds : Array FieldInfo := #[]) : ClassFile where
  minorVersion := 0
  majorVersion := 65
  constantPool := pool
  accessFlags := fl
  thisClass := this
  superClass := sup
  interfaces := ifs
  fields := fds
  methods := ms
  attributes := attrs
def plain (name : String) (sup : Option ClassId) : Class where
  name := name
  kind := .ordinary
  loader := none
  accessFlags := 33
  super := sup
  interfaces := #[]
  cf := none
  fields := #[]
  methods := #[]
  instanceTypes := #[]
  staticTypes := #[]
  resolved := #[]
  callSites := []
  init := .initialized
  statics := none
  mirror := none

def pool0 : Array CpInfo := pool [(5, u "<init>"), (0, u "()V"), (1, .class_ 10), (1, u "java/lang/Object")] 113

def k0c0 : Code := { maxStack := 0, maxLocals := 1, code := object_method_1_code, exceptionTable := #[], attributes := #[] }
def k0m0 : Method := { name := "<init>", desc := "()V", sig := { parameters := [], returnType := none }, accessFlags := 1, code := some k0c0 }
/-- java/lang/Object -/
def k0 : Class := { plain "java/lang/Object" none with
  accessFlags := 33
  interfaces := #[]
  cf := some (fileOf pool0 8 #[] #[{ accessFlags := 1, nameIndex := 5, descriptorIndex := 6, attributes := #[] }] 33 0 #[] #[])
  fields := #[]
  methods := #[k0m0]
  instanceTypes := #[]
  staticTypes := #[]
  resolved := Array.replicate 124 none
  statics := none }

def pool1 : Array CpInfo := pool [(2, .class_ 4), (0, .nameAndType 5 6), (0, u "java/lang/Object"), (0, u "<init>"), (0, u "()V"), (0, .methodref 8 9), (0, .class_ 10), (0, .nameAndType 11 12), (0, u "com/example/causeline/causeline/core/FilingPastPinLaw"), (0, u "cs"), (0, u "([JII)V"), (0, .class_ 14), (0, u "com/example/causeline/causeline/core/Filing"), (0, .class_ 16), (0, u "com/example/causeline/causeline/core/CopyTable"), (0, .methodref 15 3), (0, .methodref 13 19), (0, .nameAndType 5 20), (0, u "(Lcom/example/causeline/causeline/core/CopyTable;)V"), (0, .class_ 22), (0, u "com/example/causeline/causeline/core/Waiting"), (0, .long 7), (1, .methodref 21 26), (0, .nameAndType 5 27), (0, u "(Lcom/example/causeline/causeline/core/Message;JJJJI)V"), (0, .methodref 13 29), (0, .nameAndType 30 31), (0, u "add"), (0, u "(JLcom/example/causeline/causeline/core/Waiting;)V"), (0, .methodref 13 33), (0, .nameAndType 34 35), (0, u "removeBefore"), (0, u "(I)I"), (0, .methodref 13 37), (0, .nameAndType 38 39), (0, u "past"), (0, u "(J)I"), (0, .methodref 8 41), (0, .nameAndType 42 43), (0, u "in"), (0, u "([JIIIJ)I"), (3, u "law"), (0, u "(JJJJJI)Z")] 4

def k1m0 : Method := { name := "<init>", desc := "()V", sig := { parameters := [], returnType := none }, accessFlags := 2, code := none }
def k1c1 : Code := { maxStack := 4, maxLocals := 5, code := method_2_code, exceptionTable := #[], attributes := #[] }
def k1m1 : Method := { name := "cs", desc := "([JII)V", sig := { parameters := [(.array .long), .int, .int], returnType := none }, accessFlags := 10, code := some k1c1 }
def k1c2 : Code := { maxStack := 4, maxLocals := 6, code := method_3_code, exceptionTable := #[], attributes := #[] }
def k1m2 : Method := { name := "in", desc := "([JIIIJ)I", sig := { parameters := [(.array .long), .int, .int, .int, .long], returnType := some .int }, accessFlags := 10, code := some k1c2 }
def k1c3 : Code := { maxStack := 12, maxLocals := 18, code := code, exceptionTable := #[], attributes := #[] }
def k1m3 : Method := { name := "law", desc := "(JJJJJI)Z", sig := { parameters := [.long, .long, .long, .long, .long, .int], returnType := some .boolean }, accessFlags := 9, code := some k1c3 }
/-- com/example/causeline/causeline/core/FilingPastPinLaw -/
def k1 : Class := { plain "com/example/causeline/causeline/core/FilingPastPinLaw" (some 0) with
  accessFlags := 49
  interfaces := #[]
  cf := some (fileOf pool1 8 #[] #[{ accessFlags := 2, nameIndex := 5, descriptorIndex := 6, attributes := #[] }, { accessFlags := 10, nameIndex := 11, descriptorIndex := 12, attributes := #[] }, { accessFlags := 10, nameIndex := 42, descriptorIndex := 43, attributes := #[] }, { accessFlags := 9, nameIndex := 47, descriptorIndex := 48, attributes := #[] }] 49 2 #[] #[])
  fields := #[]
  methods := #[k1m0, k1m1, k1m2, k1m3]
  instanceTypes := #[]
  staticTypes := #[]
  resolved := Array.replicate 53 none
  statics := none }

def pool2 : Array CpInfo := pool [(1, .methodref 2 3), (0, .class_ 4), (0, .nameAndType 5 6), (0, u "java/lang/Object"), (0, u "<init>"), (0, u "()V"), (0, .fieldref 8 9), (0, .class_ 10), (0, .nameAndType 11 12), (0, u "com/example/causeline/causeline/core/Filing"), (0, u "NOTHING"), (0, u "[J"), (0, .fieldref 8 14), (0, .nameAndType 15 12), (0, u "numbers"), (0, .fieldref 8 17), (0, .nameAndType 18 12), (0, u "orders"), (0, .fieldref 8 20), (0, .nameAndType 21 22), (0, u "table"), (0, u "Lcom/example/causeline/causeline/core/CopyTable;"), (0, .fieldref 8 24), (0, .nameAndType 25 26), (0, u "end"), (0, u "I"), (0, .methodref 8 28), (0, .nameAndType 29 6), (0, u "makeRoom"), (0, .fieldref 8 31), (0, .nameAndType 32 26), (0, u "first"), (0, .methodref 8 34), (0, .nameAndType 35 36), (0, u "past"), (0, u "(J)I"), (0, .methodref 38 39), (0, .class_ 40), (0, .nameAndType 41 42), (0, u "java/lang/System"), (0, u "arraycopy"), (0, u "(Ljava/lang/Object;ILjava/lang/Object;II)V"), (0, .fieldref 44 45), (0, .class_ 46), (0, .nameAndType 47 48), (0, u "com/example/causeline/causeline/core/Waiting"), (0, u "order"), (0, u "J"), (7, .methodref 8 57), (0, .nameAndType 58 6), (0, u "emptied"), (8, u "add"), (9, .methodref 78 79), (0, .class_ 80), (0, .nameAndType 81 82), (0, u "java/lang/Math"), (0, u "max"), (0, u "(II)I"), (0, u "(Lcom/example/causeline/causeline/core/CopyTable;)V"), (2, u "(JLcom/example/causeline/causeline/core/Waiting;)V"), (6, u "removeBefore"), (0, u "(I)I")] 9

def k2c0 : Code := { maxStack := 2, maxLocals := 2, code := prog_36_method_1_code, exceptionTable := #[], attributes := #[] }
def k2m0 : Method := { name := "<init>", desc := "(Lcom/example/causeline/causeline/core/CopyTable;)V", sig := { parameters := [(.object "com/example/causeline/causeline/core/CopyTable")], returnType := none }, accessFlags := 0, code := some k2c0 }
def k2c1 : Code := { maxStack := 6, maxLocals := 5, code := prog_36_method_2_code, exceptionTable := #[], attributes := #[] }
def k2m1 : Method := { name := "add", desc := "(JLcom/example/causeline/causeline/core/Waiting;)V", sig := { parameters := [.long, (.object "com/example/causeline/causeline/core/Waiting")], returnType := none }, accessFlags := 0, code := some k2c1 }
def k2c2 : Code := { maxStack := 2, maxLocals := 3, code := prog_36_method_5_code, exceptionTable := #[], attributes := #[] }
def k2m2 : Method := { name := "removeBefore", desc := "(I)I", sig := { parameters := [.int], returnType := some .int }, accessFlags := 0, code := some k2c2 }
def k2c3 : Code := { maxStack := 4, maxLocals := 6, code := prog_36_method_11_code, exceptionTable := #[], attributes := #[] }
def k2m3 : Method := { name := "past", desc := "(J)I", sig := { parameters := [.long], returnType := some .int }, accessFlags := 0, code := some k2c3 }
def k2c4 : Code := { maxStack := 2, maxLocals := 1, code := prog_36_method_12_code, exceptionTable := #[], attributes := #[] }
def k2m4 : Method := { name := "emptied", desc := "()V", sig := { parameters := [], returnType := none }, accessFlags := 2, code := some k2c4 }
def k2c5 : Code := { maxStack := 5, maxLocals := 5, code := prog_36_method_13_code, exceptionTable := #[], attributes := #[] }
def k2m5 : Method := { name := "makeRoom", desc := "()V", sig := { parameters := [], returnType := none }, accessFlags := 2, code := some k2c5 }
/-- com/example/causeline/causeline/core/Filing -/
def k2 : Class := { plain "com/example/causeline/causeline/core/Filing" (some 0) with
  accessFlags := 48
  interfaces := #[]
  cf := some (fileOf pool2 8 #[] #[{ accessFlags := 0, nameIndex := 5, descriptorIndex := 83, attributes := #[] }, { accessFlags := 0, nameIndex := 67, descriptorIndex := 86, attributes := #[] }, { accessFlags := 0, nameIndex := 93, descriptorIndex := 94, attributes := #[] }, { accessFlags := 0, nameIndex := 35, descriptorIndex := 36, attributes := #[] }, { accessFlags := 2, nameIndex := 58, descriptorIndex := 6, attributes := #[] }, { accessFlags := 2, nameIndex := 29, descriptorIndex := 6, attributes := #[] }] 48 2 #[] #[{ accessFlags := 26, nameIndex := 11, descriptorIndex := 12, attributes := #[] }, { accessFlags := 18, nameIndex := 21, descriptorIndex := 22, attributes := #[] }, { accessFlags := 2, nameIndex := 15, descriptorIndex := 12, attributes := #[] }, { accessFlags := 2, nameIndex := 18, descriptorIndex := 12, attributes := #[] }, { accessFlags := 2, nameIndex := 32, descriptorIndex := 26, attributes := #[] }, { accessFlags := 2, nameIndex := 25, descriptorIndex := 26, attributes := #[] }])
  fields := #[{ name := "NOTHING", type := (.array .long), accessFlags := 26, slot := 0, constantValue := 0 }, { name := "table", type := (.object "com/example/causeline/causeline/core/CopyTable"), accessFlags := 18, slot := 0, constantValue := 0 }, { name := "numbers", type := (.array .long), accessFlags := 2, slot := 1, constantValue := 0 }, { name := "orders", type := (.array .long), accessFlags := 2, slot := 2, constantValue := 0 }, { name := "first", type := .int, accessFlags := 2, slot := 3, constantValue := 0 }, { name := "end", type := .int, accessFlags := 2, slot := 4, constantValue := 0 }]
  methods := #[k2m0, k2m1, k2m2, k2m3, k2m4, k2m5]
  instanceTypes := #[(.object "com/example/causeline/causeline/core/CopyTable"), (.array .long), (.array .long), .int, .int]
  staticTypes := #[(.array .long)]
  resolved := Array.replicate 104 none
  statics := some 0 }

def pool3 : Array CpInfo := pool [(1, .methodref 2 3), (0, .class_ 4), (0, .nameAndType 5 6), (0, u "java/lang/Object"), (0, u "<init>"), (0, u "()V"), (0, .class_ 8), (0, u "[Lcom/example/causeline/causeline/core/Waiting;"), (0, .fieldref 10 11), (0, .class_ 12), (0, .nameAndType 13 14), (0, u "com/example/causeline/causeline/core/CopyTable"), (0, u "blocks"), (0, u "[[Lcom/example/causeline/causeline/core/Waiting;"), (0, .fieldref 10 16), (0, .nameAndType 17 18), (0, u "counts"), (0, u "[I"), (5, u "J"), (2, u "BLOCK_BITS"), (0, u "I"), (2, u "endBlock"), (12, u "firstBlock"), (12, u "BLOCK")] 17

def k3c0 : Code := { maxStack := 2, maxLocals := 1, code := prog_25_method_1_code, exceptionTable := #[], attributes := #[] }
def k3m0 : Method := { name := "<init>", desc := "()V", sig := { parameters := [], returnType := none }, accessFlags := 0, code := some k3c0 }
/-- com/example/causeline/causeline/core/CopyTable -/
def k3 : Class := { plain "com/example/causeline/causeline/core/CopyTable" (some 0) with
  accessFlags := 48
  interfaces := #[]
  cf := some (fileOf pool3 10 #[] #[{ accessFlags := 0, nameIndex := 5, descriptorIndex := 6, attributes := #[] }] 48 2 #[] #[{ accessFlags := 24, nameIndex := 57, descriptorIndex := 28, attributes := #[] }, { accessFlags := 26, nameIndex := 27, descriptorIndex := 28, attributes := #[] }, { accessFlags := 2, nameIndex := 13, descriptorIndex := 14, attributes := #[] }, { accessFlags := 2, nameIndex := 17, descriptorIndex := 18, attributes := #[] }, { accessFlags := 2, nameIndex := 44, descriptorIndex := 24, attributes := #[] }, { accessFlags := 2, nameIndex := 31, descriptorIndex := 24, attributes := #[] }])
  fields := #[{ name := "BLOCK", type := .int, accessFlags := 24, slot := 0, constantValue := 0 }, { name := "BLOCK_BITS", type := .int, accessFlags := 26, slot := 1, constantValue := 0 }, { name := "blocks", type := (.array (.array (.object "com/example/causeline/causeline/core/Waiting"))), accessFlags := 2, slot := 0, constantValue := 0 }, { name := "counts", type := (.array .int), accessFlags := 2, slot := 1, constantValue := 0 }, { name := "firstBlock", type := .long, accessFlags := 2, slot := 2, constantValue := 0 }, { name := "endBlock", type := .long, accessFlags := 2, slot := 3, constantValue := 0 }]
  methods := #[k3m0]
  instanceTypes := #[(.array (.array (.object "com/example/causeline/causeline/core/Waiting"))), (.array .int), .long, .long]
  staticTypes := #[.int, .int]
  resolved := Array.replicate 75 none
  statics := none }

def pool4 : Array CpInfo := pool [(1, .methodref 2 3), (0, .class_ 4), (0, .nameAndType 5 6), (0, u "java/lang/Object"), (0, u "<init>"), (0, u "()V"), (2, .long 9223372036854775807), (1, .fieldref 12 13), (0, .class_ 14), (0, .nameAndType 15 16), (0, u "com/example/causeline/causeline/core/Waiting"), (0, u "alarm"), (0, u "J"), (0, .fieldref 12 18), (0, .nameAndType 19 20), (0, u "message"), (0, u "Lcom/example/causeline/causeline/core/Message;"), (0, .fieldref 12 22), (0, .nameAndType 23 16), (0, u "arrived"), (0, .fieldref 12 25), (0, .nameAndType 26 16), (0, u "sent"), (0, .fieldref 12 28), (0, .nameAndType 29 16), (0, u "deadline"), (0, .fieldref 12 31), (0, .nameAndType 32 16), (0, u "order"), (0, .fieldref 12 34), (0, .nameAndType 35 16), (0, u "latest"), (0, .fieldref 12 37), (0, .nameAndType 38 39), (0, u "namedDone"), (0, u "I"), (15, u "place"), (0, u "Lcom/example/causeline/causeline/core/Waiting$Place;"), (0, u "waitsOn"), (0, u "waitsFor"), (0, u "moves"), (0, u "(Lcom/example/causeline/causeline/core/Message;JJJJI)V"), (10, .class_ 72), (0, u "com/example/causeline/causeline/core/Waiting$Place")] 2

def k4c0 : Code := { maxStack := 3, maxLocals := 11, code := prog_77_method_1_code, exceptionTable := #[], attributes := #[] }
def k4m0 : Method := { name := "<init>", desc := "(Lcom/example/causeline/causeline/core/Message;JJJJI)V", sig := { parameters := [(.object "com/example/causeline/causeline/core/Message"), .long, .long, .long, .long, .int], returnType := none }, accessFlags := 0, code := some k4c0 }
/-- com/example/causeline/causeline/core/Waiting -/
def k4 : Class := { plain "com/example/causeline/causeline/core/Waiting" (some 0) with
  accessFlags := 48
  interfaces := #[]
  cf := some (fileOf pool4 12 #[.nestMembers #[71]] #[{ accessFlags := 0, nameIndex := 5, descriptorIndex := 60, attributes := #[] }] 48 2 #[] #[{ accessFlags := 16, nameIndex := 19, descriptorIndex := 20, attributes := #[] }, { accessFlags := 16, nameIndex := 23, descriptorIndex := 16, attributes := #[] }, { accessFlags := 16, nameIndex := 26, descriptorIndex := 16, attributes := #[] }, { accessFlags := 16, nameIndex := 29, descriptorIndex := 16, attributes := #[] }, { accessFlags := 16, nameIndex := 32, descriptorIndex := 16, attributes := #[] }, { accessFlags := 0, nameIndex := 35, descriptorIndex := 16, attributes := #[] }, { accessFlags := 0, nameIndex := 55, descriptorIndex := 56, attributes := #[] }, { accessFlags := 0, nameIndex := 57, descriptorIndex := 39, attributes := #[] }, { accessFlags := 0, nameIndex := 58, descriptorIndex := 16, attributes := #[] }, { accessFlags := 0, nameIndex := 15, descriptorIndex := 16, attributes := #[] }, { accessFlags := 0, nameIndex := 38, descriptorIndex := 39, attributes := #[] }, { accessFlags := 0, nameIndex := 59, descriptorIndex := 39, attributes := #[] }])
  fields := #[{ name := "message", type := (.object "com/example/causeline/causeline/core/Message"), accessFlags := 16, slot := 0, constantValue := 0 }, { name := "arrived", type := .long, accessFlags := 16, slot := 1, constantValue := 0 }, { name := "sent", type := .long, accessFlags := 16, slot := 2, constantValue := 0 }, { name := "deadline", type := .long, accessFlags := 16, slot := 3, constantValue := 0 }, { name := "order", type := .long, accessFlags := 16, slot := 4, constantValue := 0 }, { name := "latest", type := .long, accessFlags := 0, slot := 5, constantValue := 0 }, { name := "place", type := (.object "com/example/causeline/causeline/core/Waiting$Place"), accessFlags := 0, slot := 6, constantValue := 0 }, { name := "waitsOn", type := .int, accessFlags := 0, slot := 7, constantValue := 0 }, { name := "waitsFor", type := .long, accessFlags := 0, slot := 8, constantValue := 0 }, { name := "alarm", type := .long, accessFlags := 0, slot := 9, constantValue := 0 }, { name := "namedDone", type := .int, accessFlags := 0, slot := 10, constantValue := 0 }, { name := "moves", type := .int, accessFlags := 0, slot := 11, constantValue := 0 }]
  methods := #[k4m0]
  instanceTypes := #[(.object "com/example/causeline/causeline/core/Message"), .long, .long, .long, .long, .long, (.object "com/example/causeline/causeline/core/Waiting$Place"), .int, .long, .long, .int, .int]
  staticTypes := #[]
  resolved := Array.replicate 75 none
  statics := none }

def pool5 : Array CpInfo := pool [(1, .class_ 2), (0, u "java/lang/Math"), (1, .class_ 6), (1, u "java/lang/Object"), (0, u "<init>"), (0, u "()V"), (89, .class_ 100), (1, u "java/lang/Math$RandomNumberGeneratorHolder"), (71, u "negativeZeroFloatBits"), (0, u "J"), (2, u "negativeZeroDoubleBits"), (21, u "max"), (46, u "$assertionsDisabled"), (0, u "Z"), (88, u "(II)I"), (2, u "twoToTheDoubleScaleDown"), (0, u "D"), (4, u "twoToTheDoubleScaleUp"), (9, u "E"), (3, u "PI"), (2, u "TAU"), (2, u "DEGREES_TO_RADIANS"), (0, u "RADIANS_TO_DEGREES")] 94

def k5m0 : Method := { name := "<init>", desc := "()V", sig := { parameters := [], returnType := none }, accessFlags := 2, code := none }
def k5c1 : Code := { maxStack := 2, maxLocals := 2, code := jdk_29_method_65_code, exceptionTable := #[], attributes := #[] }
def k5m1 : Method := { name := "max", desc := "(II)I", sig := { parameters := [.int, .int], returnType := some .int }, accessFlags := 9, code := some k5c1 }
/-- java/lang/Math -/
def k5 : Class := { plain "java/lang/Math" (some 0) with
  accessFlags := 49
  interfaces := #[]
  cf := some (fileOf pool5 1 #[.nestMembers #[98]] #[{ accessFlags := 2, nameIndex := 7, descriptorIndex := 8, attributes := #[] }, { accessFlags := 9, nameIndex := 198, descriptorIndex := 335, attributes := #[] }] 49 4 #[] #[{ accessFlags := 25, nameIndex := 354, descriptorIndex := 339, attributes := #[] }, { accessFlags := 25, nameIndex := 358, descriptorIndex := 339, attributes := #[] }, { accessFlags := 25, nameIndex := 361, descriptorIndex := 339, attributes := #[] }, { accessFlags := 26, nameIndex := 364, descriptorIndex := 339, attributes := #[] }, { accessFlags := 26, nameIndex := 365, descriptorIndex := 339, attributes := #[] }, { accessFlags := 26, nameIndex := 172, descriptorIndex := 173, attributes := #[] }, { accessFlags := 26, nameIndex := 176, descriptorIndex := 173, attributes := #[] }, { accessFlags := 8, nameIndex := 344, descriptorIndex := 339, attributes := #[] }, { accessFlags := 8, nameIndex := 338, descriptorIndex := 339, attributes := #[] }, { accessFlags := 4120, nameIndex := 245, descriptorIndex := 246, attributes := #[] }])
  fields := #[{ name := "E", type := .double, accessFlags := 25, slot := 0, constantValue := 0 }, { name := "PI", type := .double, accessFlags := 25, slot := 1, constantValue := 0 }, { name := "TAU", type := .double, accessFlags := 25, slot := 2, constantValue := 0 }, { name := "DEGREES_TO_RADIANS", type := .double, accessFlags := 26, slot := 3, constantValue := 0 }, { name := "RADIANS_TO_DEGREES", type := .double, accessFlags := 26, slot := 4, constantValue := 0 }, { name := "negativeZeroFloatBits", type := .long, accessFlags := 26, slot := 5, constantValue := 0 }, { name := "negativeZeroDoubleBits", type := .long, accessFlags := 26, slot := 6, constantValue := 0 }, { name := "twoToTheDoubleScaleUp", type := .double, accessFlags := 8, slot := 7, constantValue := 0 }, { name := "twoToTheDoubleScaleDown", type := .double, accessFlags := 8, slot := 8, constantValue := 0 }, { name := "$assertionsDisabled", type := .boolean, accessFlags := 4120, slot := 9, constantValue := 0 }]
  methods := #[k5m0, k5m1]
  instanceTypes := #[]
  staticTypes := #[.double, .double, .double, .double, .double, .long, .long, .double, .double, .boolean]
  resolved := Array.replicate 460 none
  statics := none }

def pool6 : Array CpInfo := pool [(2, .class_ 4), (1, u "java/lang/Object"), (0, u "<init>"), (0, u "()V"), (1, .class_ 10), (1, u "java/lang/System"), (0, u "allowSecurityManager"), (0, u "I"), (16, u "cons"), (0, u "Ljava/io/Console;"), (77, .class_ 110), (1, u "java/lang/System$CallersHolder"), (43, u "initialErrStream"), (0, u "Ljava/io/PrintStream;"), (19, u "security"), (0, u "Ljava/lang/SecurityManager;"), (31, .class_ 209), (0, u "java/lang/System$1"), (7, u "props"), (0, u "Ljava/util/Properties;"), (2, u "lineSeparator"), (0, u "Ljava/lang/String;"), (96, .class_ 321), (1, u "java/lang/System$LoggerFinder"), (5, .class_ 328), (0, u "java/lang/System$Logger"), (67, u "err"), (2, u "out"), (91, u "notSupportedJnuEncoding"), (15, u "in"), (17, u "initialIn"), (0, u "Ljava/io/InputStream;"), (35, u "bootLayer"), (0, u "Ljava/lang/ModuleLayer;"), (99, .class_ 664), (0, u "java/lang/System$2"), (9, u "NEVER"), (2, u "MAYBE"), (49, u "arraycopy"), (0, u "(Ljava/lang/Object;ILjava/lang/Object;II)V"), (72, .class_ 802), (0, u "java/lang/System$Logger$Level")] 31

def k6m0 : Method := { name := "<init>", desc := "()V", sig := { parameters := [], returnType := none }, accessFlags := 2, code := none }
def k6m1 : Method := { name := "arraycopy", desc := "(Ljava/lang/Object;ILjava/lang/Object;II)V", sig := { parameters := [(.object "java/lang/Object"), .int, (.object "java/lang/Object"), .int, .int], returnType := none }, accessFlags := 265, code := none }
/-- java/lang/System -/
def k6 : Class := { plain "java/lang/System" (some 0) with
  accessFlags := 49
  interfaces := #[]
  cf := some (fileOf pool6 8 #[.nestMembers #[319, 327, 801, 108, 663, 208]] #[{ accessFlags := 2, nameIndex := 5, descriptorIndex := 6, attributes := #[] }, { accessFlags := 265, nameIndex := 727, descriptorIndex := 728, attributes := #[] }] 49 2 #[] #[{ accessFlags := 25, nameIndex := 507, descriptorIndex := 526, attributes := #[] }, { accessFlags := 25, nameIndex := 399, descriptorIndex := 155, attributes := #[] }, { accessFlags := 25, nameIndex := 396, descriptorIndex := 155, attributes := #[] }, { accessFlags := 10, nameIndex := 525, descriptorIndex := 526, attributes := #[] }, { accessFlags := 26, nameIndex := 674, descriptorIndex := 12, attributes := #[] }, { accessFlags := 26, nameIndex := 677, descriptorIndex := 12, attributes := #[] }, { accessFlags := 10, nameIndex := 11, descriptorIndex := 12, attributes := #[] }, { accessFlags := 74, nameIndex := 175, descriptorIndex := 176, attributes := #[] }, { accessFlags := 10, nameIndex := 491, descriptorIndex := 222, attributes := #[] }, { accessFlags := 74, nameIndex := 29, descriptorIndex := 30, attributes := #[] }, { accessFlags := 74, nameIndex := 154, descriptorIndex := 155, attributes := #[] }, { accessFlags := 10, nameIndex := 217, descriptorIndex := 218, attributes := #[] }, { accessFlags := 10, nameIndex := 221, descriptorIndex := 222, attributes := #[] }, { accessFlags := 8, nameIndex := 562, descriptorIndex := 563, attributes := #[] }])
  fields := #[{ name := "in", type := (.object "java/io/InputStream"), accessFlags := 25, slot := 0, constantValue := 0 }, { name := "out", type := (.object "java/io/PrintStream"), accessFlags := 25, slot := 1, constantValue := 0 }, { name := "err", type := (.object "java/io/PrintStream"), accessFlags := 25, slot := 2, constantValue := 0 }, { name := "initialIn", type := (.object "java/io/InputStream"), accessFlags := 10, slot := 3, constantValue := 0 }, { name := "NEVER", type := .int, accessFlags := 26, slot := 4, constantValue := 0 }, { name := "MAYBE", type := .int, accessFlags := 26, slot := 5, constantValue := 0 }, { name := "allowSecurityManager", type := .int, accessFlags := 10, slot := 6, constantValue := 0 }, { name := "security", type := (.object "java/lang/SecurityManager"), accessFlags := 74, slot := 7, constantValue := 0 }, { name := "notSupportedJnuEncoding", type := (.object "java/lang/String"), accessFlags := 10, slot := 8, constantValue := 0 }, { name := "cons", type := (.object "java/io/Console"), accessFlags := 74, slot := 9, constantValue := 0 }, { name := "initialErrStream", type := (.object "java/io/PrintStream"), accessFlags := 74, slot := 10, constantValue := 0 }, { name := "props", type := (.object "java/util/Properties"), accessFlags := 10, slot := 11, constantValue := 0 }, { name := "lineSeparator", type := (.object "java/lang/String"), accessFlags := 10, slot := 12, constantValue := 0 }, { name := "bootLayer", type := (.object "java/lang/ModuleLayer"), accessFlags := 8, slot := 13, constantValue := 0 }]
  methods := #[k6m0, k6m1]
  instanceTypes := #[]
  staticTypes := #[(.object "java/io/InputStream"), (.object "java/io/PrintStream"), (.object "java/io/PrintStream"), (.object "java/io/InputStream"), .int, .int, .int, (.object "java/lang/SecurityManager"), (.object "java/lang/String"), (.object "java/io/Console"), (.object "java/io/PrintStream"), (.object "java/util/Properties"), (.object "java/lang/String"), (.object "java/lang/ModuleLayer")]
  resolved := Array.replicate 834 none
  statics := none }

def pool7 : Array CpInfo := pool [(1, u "java/lang/Cloneable"), (0, .class_ 1), (0, u "java/lang/Object"), (0, .class_ 3)] 3

/-- java/lang/Cloneable -/
def k7 : Class := { plain "java/lang/Cloneable" (some 0) with
  accessFlags := 1537
  interfaces := #[]
  cf := some (fileOf pool7 2 #[] #[] 1537 4 #[] #[])
  fields := #[]
  methods := #[]
  instanceTypes := #[]
  staticTypes := #[]
  resolved := Array.replicate 8 none
  statics := none }

def pool8 : Array CpInfo := pool [(1, u "java/io/Serializable"), (0, .class_ 1), (0, u "java/lang/Object"), (0, .class_ 3)] 3

/-- java/io/Serializable -/
def k8 : Class := { plain "java/io/Serializable" (some 0) with
  accessFlags := 1537
  interfaces := #[]
  cf := some (fileOf pool8 2 #[] #[] 1537 4 #[] #[])
  fields := #[]
  methods := #[]
  instanceTypes := #[]
  staticTypes := #[]
  resolved := Array.replicate 8 none
  statics := none }

/-- the primitive byte -/
def k9 : Class := { plain "byte" none with kind := .primitive 'B', accessFlags := 0x411 }
/-- [B -/
def k10 : Class := { plain "[B" (some 0) with kind := .array 9 .byte, interfaces := #[7, 8], accessFlags := 1041 }

/-- the primitive int -/
def k11 : Class := { plain "int" none with kind := .primitive 'I', accessFlags := 0x411 }
/-- [I -/
def k12 : Class := { plain "[I" (some 0) with kind := .array 11 .int, interfaces := #[7, 8], accessFlags := 1041 }

/-- the primitive long -/
def k13 : Class := { plain "long" none with kind := .primitive 'J', accessFlags := 0x411 }
/-- [J -/
def k14 : Class := { plain "[J" (some 0) with kind := .array 13 .long, interfaces := #[7, 8], accessFlags := 1041 }

def k15 : Class := { plain "[Lcom/example/causeline/causeline/core/Waiting;" (some 0) with kind := .array 4 (.object "com/example/causeline/causeline/core/Waiting"), interfaces := #[7, 8], accessFlags := 1041 }
def k16 : Class := { plain "[[Lcom/example/causeline/causeline/core/Waiting;" (some 0) with kind := .array 15 (.array (.object "com/example/causeline/causeline/core/Waiting")), interfaces := #[7, 8], accessFlags := 1041 }
def heap : Heap := #[{ cls := 2, slots := #[.ref 1], vm := .statics 2 },
  { cls := 14, slots := #[], vm := .none }]
def classes : Array Class := #[k0, k1, k2, k3, k4, k5, k6, k7, k8, k9, k10, k11, k12, k13, k14, k15, k16]
def interned : List (Array UInt16 × Addr) := []
def slotsUsed : Nat := 1
def theMethod : MethodId := ⟨1, 3⟩
def args0 : Array Value := #[.long 5, .long 3, .long 9, .long 1, .long 4, .int 19]
def aboutOver (below : List Frame) : State where
  vm := { classes := classes, interned := interned.toArray }
  heap := heap
  slotsUsed := slotsUsed
  threads := #[{ frames := .invoking theMethod args0 :: below }]
def below0 : List Frame := [.native { method := ⟨0, 0⟩, args := #[] }]
def about1 : State := aboutOver below0
def p0 : Program := .bare "" "" ""
def e0 : Env := launch0.env 0 0 0
theorem w_frames : about1.frames = Frame.invoking theMethod args0 :: below0 := rfl
set_option maxRecDepth 65536 in
theorem w_args : argsFit about1.vm theMethod args0 = true := by decide +kernel
set_option maxRecDepth 65536 in
theorem w_heap : heapFits about1 = true := by decide +kernel
set_option maxRecDepth 65536 in
theorem w_runnable : about1.curStatus? = some .runnable := by decide +kernel
set_option maxRecDepth 65536 in
theorem w_alone : about1.alone = true := by decide +kernel
set_option maxRecDepth 65536 in
theorem w_named : about1.methodNamed? x = some theMethod := by decide +kernel
set_option maxRecDepth 65536 in
theorem w_hears : about1.hears theMethod below0 = true := by decide +kernel
set_option maxRecDepth 65536 in
theorem w_ripe : about1.ripe theMethod args0 below0 = true := by decide +kernel
theorem w_running : about1.status = .running := rfl
set_option maxRecDepth 65536 in
theorem w_room : about1.hasRoom e0.platform room_1 = true :=
  launch0.hasRoom_least _ room_1 (by decide +kernel) (by decide +kernel) (by decide +kernel) (by decide +kernel) (by decide +kernel) (by decide +kernel)
theorem allAtoms_all (ts : List Jvm.Cond) (a : Array Jvm.Value) (st : Jvm.State) : (allAtoms ts).before a st = ts.all (fun c => c.before a st) := by
  induction ts with
  | nil => rfl
  | cons c t ih =>
    show (Jvm.Cond.and c (allAtoms t)).before a st = _
    rw [Jvm.Cond.before_and, ih, List.all_cons]
def words1 : List Jvm.Cond := Jvm.Cond.code x code maxLocals ret :: tables_1
/-- a 'code' word, met by the world's own term for the bytes: nothing is compared byte by byte -/
theorem code_word {y : MethodName} {bytes : ByteArray} {mx : Nat} {rt : Option FieldType} {a : Array Value} {s : State} {m : MethodId} {meth : Method} {c : Code} (h1 : s.methodNamed? y = some m) (h2 : s.vm.method? m = some meth) (h3 : meth.code = some c) (h4 : c.code = bytes)
    (h5 : (c.maxLocals == mx && c.exceptionTable.isEmpty && decide (c.maxStack ≤ mostOperands) && decide (meth.sig.returnType = rt) && !meth.locks && decide (parseMethodDescriptor y.desc = some meth.sig)) = true) : (Jvm.Cond.code y bytes mx rt).before a s = true := by
  simp only [Bool.and_eq_true, beq_iff_eq, Bool.not_eq_true', decide_eq_true_eq] at h5
  obtain ⟨⟨⟨⟨⟨g1, g2⟩, g3⟩, g4⟩, g5⟩, g6⟩ := h5
  simp [Cond.before, Cond.holds, Cond.value, h1, h2, h3, h4, g1, g2, g3, g4, g5, g6]
def isCode : Jvm.Cond → Bool
  | .code _ _ _ _ => true
  | _ => false
theorem all_split {L : List Jvm.Cond} {P : Jvm.Cond → Bool} (h1 : L.all (fun c => isCode c || P c) = true) (h2 : ∀ c ∈ L.filter isCode, P c = true) : L.all P = true := by
  refine List.all_eq_true.mpr fun c hc => ?_
  have h := List.all_eq_true.mp h1 c hc
  rcases Bool.eq_false_or_eq_true (isCode c) with hi | hi
  · exact h2 c (List.mem_filter.mpr ⟨hc, hi⟩)
  · simpa [hi] using h
set_option maxRecDepth 65536 in
theorem w_c0 : (Jvm.Cond.code x code maxLocals ret).before args0 about1 = true := code_word (m := ⟨1, 3⟩) (meth := k1m3) (c := k1c3) (by decide +kernel) rfl rfl rfl (by decide +kernel)
set_option maxRecDepth 65536 in
theorem w_c1 : (Jvm.Cond.code ({ cls := "com/example/causeline/causeline/core/FilingPastPinLaw", name := "cs", desc := "([JII)V" } : Jvm.MethodName) method_2_code (5 : Nat) (Option.none : Option Jvm.ClassFile.FieldType)).before args0 about1 = true := code_word (m := ⟨1, 1⟩) (meth := k1m1) (c := k1c1) (by decide +kernel) rfl rfl rfl (by decide +kernel)
set_option maxRecDepth 65536 in
theorem w_c2 : (Jvm.Cond.code ({ cls := "com/example/causeline/causeline/core/CopyTable", name := "<init>", desc := "()V" } : Jvm.MethodName) prog_25_method_1_code (1 : Nat) (Option.none : Option Jvm.ClassFile.FieldType)).before args0 about1 = true := code_word (m := ⟨3, 0⟩) (meth := k3m0) (c := k3c0) (by decide +kernel) rfl rfl rfl (by decide +kernel)
set_option maxRecDepth 65536 in
theorem w_c3 : (Jvm.Cond.code ({ cls := "java/lang/Object", name := "<init>", desc := "()V" } : Jvm.MethodName) object_method_1_code (1 : Nat) (Option.none : Option Jvm.ClassFile.FieldType)).before args0 about1 = true := code_word (m := ⟨0, 0⟩) (meth := k0m0) (c := k0c0) (by decide +kernel) rfl rfl rfl (by decide +kernel)
set_option maxRecDepth 65536 in
theorem w_c4 : (Jvm.Cond.code ({ cls := "com/example/causeline/causeline/core/Filing", name := "<init>", desc := "(Lcom/example/causeline/causeline/core/CopyTable;)V" } : Jvm.MethodName) prog_36_method_1_code (2 : Nat) (Option.none : Option Jvm.ClassFile.FieldType)).before args0 about1 = true := code_word (m := ⟨2, 0⟩) (meth := k2m0) (c := k2c0) (by decide +kernel) rfl rfl rfl (by decide +kernel)
set_option maxRecDepth 65536 in
theorem w_c5 : (Jvm.Cond.code ({ cls := "com/example/causeline/causeline/core/Waiting", name := "<init>", desc := "(Lcom/example/causeline/causeline/core/Message;JJJJI)V" } : Jvm.MethodName) prog_77_method_1_code (11 : Nat) (Option.none : Option Jvm.ClassFile.FieldType)).before args0 about1 = true := code_word (m := ⟨4, 0⟩) (meth := k4m0) (c := k4c0) (by decide +kernel) rfl rfl rfl (by decide +kernel)
set_option maxRecDepth 65536 in
theorem w_c6 : (Jvm.Cond.code ({ cls := "com/example/causeline/causeline/core/Filing", name := "add", desc := "(JLcom/example/causeline/causeline/core/Waiting;)V" } : Jvm.MethodName) prog_36_method_2_code (5 : Nat) (Option.none : Option Jvm.ClassFile.FieldType)).before args0 about1 = true := code_word (m := ⟨2, 1⟩) (meth := k2m1) (c := k2c1) (by decide +kernel) rfl rfl rfl (by decide +kernel)
set_option maxRecDepth 65536 in
theorem w_c7 : (Jvm.Cond.code ({ cls := "com/example/causeline/causeline/core/Filing", name := "makeRoom", desc := "()V" } : Jvm.MethodName) prog_36_method_13_code (5 : Nat) (Option.none : Option Jvm.ClassFile.FieldType)).before args0 about1 = true := code_word (m := ⟨2, 5⟩) (meth := k2m5) (c := k2c5) (by decide +kernel) rfl rfl rfl (by decide +kernel)
set_option maxRecDepth 65536 in
theorem w_c8 : (Jvm.Cond.code ({ cls := "java/lang/Math", name := "max", desc := "(II)I" } : Jvm.MethodName) jdk_29_method_65_code (2 : Nat) (Option.some Jvm.ClassFile.FieldType.int)).before args0 about1 = true := code_word (m := ⟨5, 1⟩) (meth := k5m1) (c := k5c1) (by decide +kernel) rfl rfl rfl (by decide +kernel)
set_option maxRecDepth 65536 in
theorem w_c9 : (Jvm.Cond.code ({ cls := "com/example/causeline/causeline/core/Filing", name := "removeBefore", desc := "(I)I" } : Jvm.MethodName) prog_36_method_5_code (3 : Nat) (Option.some Jvm.ClassFile.FieldType.int)).before args0 about1 = true := code_word (m := ⟨2, 2⟩) (meth := k2m2) (c := k2c2) (by decide +kernel) rfl rfl rfl (by decide +kernel)
set_option maxRecDepth 65536 in
theorem w_c10 : (Jvm.Cond.code ({ cls := "com/example/causeline/causeline/core/Filing", name := "emptied", desc := "()V" } : Jvm.MethodName) prog_36_method_12_code (1 : Nat) (Option.none : Option Jvm.ClassFile.FieldType)).before args0 about1 = true := code_word (m := ⟨2, 4⟩) (meth := k2m4) (c := k2c4) (by decide +kernel) rfl rfl rfl (by decide +kernel)
set_option maxRecDepth 65536 in
theorem w_c11 : (Jvm.Cond.code ({ cls := "com/example/causeline/causeline/core/Filing", name := "past", desc := "(J)I" } : Jvm.MethodName) prog_36_method_11_code (6 : Nat) (Option.some Jvm.ClassFile.FieldType.int)).before args0 about1 = true := code_word (m := ⟨2, 3⟩) (meth := k2m3) (c := k2c3) (by decide +kernel) rfl rfl rfl (by decide +kernel)
set_option maxRecDepth 65536 in
theorem w_c12 : (Jvm.Cond.code ({ cls := "com/example/causeline/causeline/core/FilingPastPinLaw", name := "in", desc := "([JIIIJ)I" } : Jvm.MethodName) method_3_code (6 : Nat) (Option.some Jvm.ClassFile.FieldType.int)).before args0 about1 = true := code_word (m := ⟨1, 2⟩) (meth := k1m2) (c := k1c2) (by decide +kernel) rfl rfl rfl (by decide +kernel)
def codes1 : List Jvm.Cond := [Jvm.Cond.code x code maxLocals ret, Jvm.Cond.code ({ cls := "com/example/causeline/causeline/core/FilingPastPinLaw", name := "cs", desc := "([JII)V" } : Jvm.MethodName) method_2_code (5 : Nat) (Option.none : Option Jvm.ClassFile.FieldType), Jvm.Cond.code ({ cls := "com/example/causeline/causeline/core/CopyTable", name := "<init>", desc := "()V" } : Jvm.MethodName) prog_25_method_1_code (1 : Nat) (Option.none : Option Jvm.ClassFile.FieldType), Jvm.Cond.code ({ cls := "java/lang/Object", name := "<init>", desc := "()V" } : Jvm.MethodName) object_method_1_code (1 : Nat) (Option.none : Option Jvm.ClassFile.FieldType), Jvm.Cond.code ({ cls := "com/example/causeline/causeline/core/Filing", name := "<init>", desc := "(Lcom/example/causeline/causeline/core/CopyTable;)V" } : Jvm.MethodName) prog_36_method_1_code (2 : Nat) (Option.none : Option Jvm.ClassFile.FieldType), Jvm.Cond.code ({ cls := "com/example/causeline/causeline/core/Waiting", name := "<init>", desc := "(Lcom/example/causeline/causeline/core/Message;JJJJI)V" } : Jvm.MethodName) prog_77_method_1_code (11 : Nat) (Option.none : Option Jvm.ClassFile.FieldType), Jvm.Cond.code ({ cls := "com/example/causeline/causeline/core/Filing", name := "add", desc := "(JLcom/example/causeline/causeline/core/Waiting;)V" } : Jvm.MethodName) prog_36_method_2_code (5 : Nat) (Option.none : Option Jvm.ClassFile.FieldType), Jvm.Cond.code ({ cls := "com/example/causeline/causeline/core/Filing", name := "makeRoom", desc := "()V" } : Jvm.MethodName) prog_36_method_13_code (5 : Nat) (Option.none : Option Jvm.ClassFile.FieldType), Jvm.Cond.code ({ cls := "java/lang/Math", name := "max", desc := "(II)I" } : Jvm.MethodName) jdk_29_method_65_code (2 : Nat) (Option.some Jvm.ClassFile.FieldType.int), Jvm.Cond.code ({ cls := "com/example/causeline/causeline/core/Filing", name := "removeBefore", desc := "(I)I" } : Jvm.MethodName) prog_36_method_5_code (3 : Nat) (Option.some Jvm.ClassFile.FieldType.int), Jvm.Cond.code ({ cls := "com/example/causeline/causeline/core/Filing", name := "emptied", desc := "()V" } : Jvm.MethodName) prog_36_method_12_code (1 : Nat) (Option.none : Option Jvm.ClassFile.FieldType), Jvm.Cond.code ({ cls := "com/example/causeline/causeline/core/Filing", name := "past", desc := "(J)I" } : Jvm.MethodName) prog_36_method_11_code (6 : Nat) (Option.some Jvm.ClassFile.FieldType.int), Jvm.Cond.code ({ cls := "com/example/causeline/causeline/core/FilingPastPinLaw", name := "in", desc := "([JIIIJ)I" } : Jvm.MethodName) method_3_code (6 : Nat) (Option.some Jvm.ClassFile.FieldType.int)]
set_option maxRecDepth 65536 in
theorem codes_eq : words1.filter isCode = codes1 := rfl
theorem w_codes : ∀ c ∈ words1.filter isCode, c.before args0 about1 = true := by
  rw [codes_eq]
  intro c hc
  simp only [codes1, List.mem_cons, List.not_mem_nil, or_false] at hc
  rcases hc with rfl | rfl | rfl | rfl | rfl | rfl | rfl | rfl | rfl | rfl | rfl | rfl | rfl
  · exact w_c0
  · exact w_c1
  · exact w_c2
  · exact w_c3
  · exact w_c4
  · exact w_c5
  · exact w_c6
  · exact w_c7
  · exact w_c8
  · exact w_c9
  · exact w_c10
  · exact w_c11
  · exact w_c12
set_option maxRecDepth 65536 in
theorem w_t1 : (words1.take 24).all (fun c => isCode c || c.before args0 about1) = true := by decide +kernel
set_option maxRecDepth 65536 in
theorem w_t2 : ((words1.drop 24).take 24).all (fun c => isCode c || c.before args0 about1) = true := by decide +kernel
set_option maxRecDepth 65536 in
theorem w_t3 : (((words1.drop 24).drop 24).take 24).all (fun c => isCode c || c.before args0 about1) = true := by decide +kernel
set_option maxRecDepth 65536 in
theorem w_t4 : ((((words1.drop 24).drop 24).drop 24).take 24).all (fun c => isCode c || c.before args0 about1) = true := by decide +kernel
set_option maxRecDepth 65536 in
theorem w_t5 : ((((words1.drop 24).drop 24).drop 24).drop 24).all (fun c => isCode c || c.before args0 about1) = true := by decide +kernel
theorem w_tables : (allAtoms (Jvm.Cond.code x code maxLocals ret :: tables_1)).before args0 about1 = true := by
  rw [allAtoms_all]
  show words1.all (fun c => c.before args0 about1) = true
  refine all_split ?_ w_codes
  rw [← List.take_append_drop 24 words1, List.all_append, w_t1, ← List.take_append_drop 24 (words1.drop 24), List.all_append, w_t2, ← List.take_append_drop 24 ((words1.drop 24).drop 24), List.all_append, w_t3, ← List.take_append_drop 24 (((words1.drop 24).drop 24).drop 24), List.all_append, w_t4, w_t5]
  rfl
set_option maxRecDepth 65536 in
theorem w_case : (Jvm.Cond.and given_1 narrow_1).before args0 about1 = true := by decide +kernel
theorem w_applies : (headSpec (Jvm.Cond.code x code maxLocals ret :: tables_1) room_1).applies x e0.platform about1 = true :=
  (Spec.applies_iff w_frames).mpr ⟨w_running, w_runnable, w_alone, w_named, w_hears, w_ripe, w_room, w_tables⟩
theorem atStart : AtStart classFile x code maxLocals ret World_1 tables_1 room_1 Calls_1 rest_1 Pre_1 launch0 p0 e0 about1 theMethod args0 below0 :=
  ⟨lists_1, trivial, launch0.admits_env _ _ _, launch0.least_env, fairChoices_fair.cas, fairChoices_fair.clock, w_frames, w_args, w_heap, w_applies, trivial, trivial, w_case⟩
end start1
theorem witness_1 : WitnessClaimed_1 := ⟨start1.p0, start1.e0, start1.about1, start1.theMethod, start1.args0, start1.below0, start1.atStart⟩
end Jvm.Pilot.@@N@@
