import JvmDerived
import JvmDerived.Pilot.@@N@@Statement
import JvmDerived.Pilot.@@N@@Code
set_option linter.unusedVariables false
set_option linter.unusedSimpArgs false
namespace Jvm.RoadKit
open Sem ClassFile Op Lib Jvm.Stand Jvm.Free Jvm.LawKit
theorem own_lrem_eq (x y : Int64) : x - x / y * y = x % y := by
  have h1 := Int64.le_toInt (x % y)
  have h2 := Int64.toInt_lt (x % y)
  have h3 : x.toInt - x.toInt.tdiv y.toInt * y.toInt = (x % y).toInt := by
    rw [Int64.toInt_mod, Int.mul_comm, ← Int.tmod_def]
  apply Int64.toInt_inj.mp
  rw [Int64.toInt_sub, Int64.toInt_mul, Int64.toInt_div, Int.bmod_mul_bmod, Int.sub_bmod_bmod, h3]
  exact Int.bmod_eq_of_le_mul_two (by omega) (by omega)
theorem own_lremM {p : Program} {l : Launch} {e : Env} {R : Room} {s : State} {m : MethodId} {args : Array Value} {below : List Frame} {meth : Method} {c : Code} {T : State} {locs : List Loc} {cells slots : Nat} {g : JFrame} {target : State} (X : Stand p l e R s m args below meth c T locs cells slots) (hx : p.tables.exec = Jvm.exec) (hg : g.method = m) {x y : Int64} {rest : List Value} (hd : decode c.code g.pc = .ok (.lrem, 1)) (hs : g.stack = .long y :: .long x :: rest) (hy : y ≠ 0)
    (hr : Steps p.tables e below (T.setTop { g with pc := g.pc + 1, stack := .long (x % y) :: rest }) target) : Steps p.tables e below (T.setTop g) target :=
  XS.lrem X.here hx hg hd hs hy (by rw [own_lrem_eq x y]; exact hr)
end Jvm.RoadKit
namespace Jvm.Pilot.@@N@@
open Jvm Jvm.ClassFile Sem Op Lib Jvm.Free Jvm.Stand Jvm.LawKit Jvm.RoadKit Bundle Jvm.Pilot.@@N@@.Jvm.D
theorem d1_0 : decode prog_6_method_2_code 0 = .ok (.iload_n 2, 1) := by decide +kernel
theorem d1_1 : decode prog_6_method_2_code 1 = .ok (.i2l, 1) := by decide +kernel
theorem d1_2 : decode prog_6_method_2_code 2 = .ok (.bipush 58, 2) := by decide +kernel
theorem d1_4 : decode prog_6_method_2_code 4 = .ok (.lshl, 1) := by decide +kernel
theorem d1_5 : decode prog_6_method_2_code 5 = .ok (.lload_n 0, 1) := by decide +kernel
theorem d1_6 : decode prog_6_method_2_code 6 = .ok (.lor, 1) := by decide +kernel
theorem d1_7 : decode prog_6_method_2_code 7 = .ok (.lreturn, 1) := by decide +kernel
theorem pn_7 : plainName "com/example/paniere/paniere/CompactDecimal" = true := by first | (simp [plainName, overriddenIn]; done) | decide +kernel
theorem ef_rm1 (m : MethodId) (x0 : Int64) (x1 : Int32) : entryFrame m #[(.long x0), (.int x1)] 3 = mkF m 0 #[.val (.long x0), .second, .val (.int x1)] [] := by first | (simp [entryFrame, mkF, argsToLocals, Value.category]; done) | rfl
def own_pack (vu : Int64) (vs : Int32) : Int64 := (((vs.toInt64) <<< ((58 : Int32) &&& 0x3f).toInt64) ||| vu)
def Q1 (Z : State) (vu : Int64) (vs : Int32) (h0 : Heap) (n0 : Nat) (v : Option Value) (h : Heap) (L : List Loc) : Prop := v = some (.long (own_pack vu vs)) ∧ Fr n0 L ∧ h = h0
set_option maxRecDepth 65536 in
set_option maxHeartbeats 40000000 in
theorem rm1 (l : Launch) (Z : State) (a0 : Array Value) (hw : ∀ d ∈ tables_1, d.before a0 Z = true) (ws : List Jvm.Cond) (vu : Int64) (vs : Int32) (h0 : Heap) (n0 : Nat) (Z0 : n0 ≤ h0.size) :
    MetFree l (⟨"com/example/paniere/paniere/CompactDecimal", "pack", "(JI)J"⟩ : MethodName) (head1 (Jvm.Cond.code (⟨"com/example/paniere/paniere/CompactDecimal", "pack", "(JI)J"⟩ : MethodName) prog_6_method_2_code 3 (some .long) :: ws) ({ frames := 0, cells := 0, slots := 0, locals := 0 } : Room)) (fun a U => a = #[(.long vu), (.int vs)] ∧ Z.Warmed39 U.vm ∧ U.heap = h0) (fun _ _ _ _ _ => True) (fun _ U o U' => ∃ v L, o = .returned v ∧ Q1 Z vu vs h0 n0 v U'.heap L ∧ FrameEnd U o U' L ({ frames := 0, cells := 0, slots := 0, locals := 0 } : Room).cells ({ frames := 0, cells := 0, slots := 0, locals := 0 } : Room).slots) := by
  refine MetFree.of_bodySF (plainFor_of_name pn_7) hisR ?_
  intro p e s m args below meth c s₁ Bd hml0 hP hK
  obtain ⟨rfl, hZ, hh⟩ := hP
  have hx := Bd.exec
  have hby := Bd.bytes
  have hml : c.maxLocals = 3 := hml0
  have hown : s.vm.findClass "com/example/paniere/paniere/CompactDecimal" = some m.cls := findClass_of_methodNamed Bd.named
  have hnm := (name_of_methodNamed Bd.named Bd.method).1
  have X0 : Stand p l e ({ frames := 0, cells := 0, slots := 0, locals := 0 } : Room) s m #[(.long vu), (.int vs)] below meth c s₁ [] 0 0 := Stand.of_body Bd
  have e0 : s₁.heap = h0 := by rw [← hh, Bd.state]; rfl
  have N0 := Fr.nil n0
  have pre0 : ∀ t, Steps p.tables e below (s₁.setTop (mkF m 0 #[.val (.long vu), .second, .val (.int vs)] [])) t → Steps p.tables e below (s₁.setTop (entryFrame m #[(.long vu), (.int vs)] 3)) t := fun t k => castTop (ef_rm1 m vu vs) k
  obtain ⟨fs, hr, hrun, hended, hW, hsame⟩ := X0.leave (v := some (.long (((vs.toInt64) <<< ((58 : Int32) &&& 0x3f).toInt64) ||| vu))) (fun h => by rw [Bd.returns] at h; cases h)
  refine ⟨_, _, pre0 _ ?_, hrun, hended, _, _, rfl, ?_, ⟨_, rfl⟩, hW, hsame.mono (by decide) (by decide)⟩
  ·
    show Steps p.tables e below (s₁.setTop (mkF m 0 #[.val (.long vu), .second, .val (.int vs)] [])) _
    refine XS.iloadN X0.here hx rfl (hb hby d1_0) rfl ?_
    show Steps p.tables e below (s₁.setTop (mkF m 1 #[.val (.long vu), .second, .val (.int vs)] [(.int vs)])) _
    refine XS.i2l X0.here hx rfl (hb hby d1_1) rfl ?_
    show Steps p.tables e below (s₁.setTop (mkF m 2 #[.val (.long vu), .second, .val (.int vs)] [(.long (vs.toInt64))])) _
    refine XS.bipush X0.here hx rfl (hb hby d1_2) ?_
    show Steps p.tables e below (s₁.setTop (mkF m 4 #[.val (.long vu), .second, .val (.int vs)] [(.int (58 : Int32)), (.long (vs.toInt64))])) _
    refine XS.lshl X0.here hx rfl (hb hby d1_4) rfl ?_
    show Steps p.tables e below (s₁.setTop (mkF m 5 #[.val (.long vu), .second, .val (.int vs)] [(.long ((vs.toInt64) <<< ((58 : Int32) &&& 0x3f).toInt64))])) _
    refine XS.lloadN X0.here hx rfl (hb hby d1_5) rfl ?_
    show Steps p.tables e below (s₁.setTop (mkF m 6 #[.val (.long vu), .second, .val (.int vs)] [(.long vu), (.long ((vs.toInt64) <<< ((58 : Int32) &&& 0x3f).toInt64))])) _
    refine XS.lor X0.here hx rfl (hb hby d1_6) rfl ?_
    show Steps p.tables e below (s₁.setTop (mkF m 7 #[.val (.long vu), .second, .val (.int vs)] [(.long (((vs.toInt64) <<< ((58 : Int32) &&& 0x3f).toInt64) ||| vu))])) _
    exact retOut X0 hx (t := .long) (i := .lreturn) Bd.returns rfl (Or.inr (Or.inl ⟨rfl, rfl, _, rfl⟩)) (hb hby d1_7) hr
  ·
    show Q1 Z vu vs h0 n0 _ s₁.heap _
    rw [e0]
    have hv : (((vs.toInt64) <<< ((58 : Int32) &&& 0x3f).toInt64) ||| vu) = (own_pack vu vs) := by rw [own_pack]
    exact ⟨(congrArg (fun z => some (Value.long z)) hv), N0, rfl⟩
theorem d2_0 : decode prog_10_method_4_code 0 = .ok (.lload_n 0, 1) := by decide +kernel
theorem d2_1 : decode prog_10_method_4_code 1 = .ok (.lconst 0, 1) := by decide +kernel
theorem d2_2 : decode prog_10_method_4_code 2 = .ok (.lcmp, 1) := by decide +kernel
theorem d2_3 : decode prog_10_method_4_code 3 = .ok (.ifCond .le 7, 3) := by decide +kernel
theorem d2_6 : decode prog_10_method_4_code 6 = .ok (.iconst 1, 1) := by decide +kernel
theorem d2_7 : decode prog_10_method_4_code 7 = .ok (.goto 4, 3) := by decide +kernel
theorem d2_11 : decode prog_10_method_4_code 11 = .ok (.ireturn, 1) := by decide +kernel
theorem d2_10 : decode prog_10_method_4_code 10 = .ok (.iconst 0, 1) := by decide +kernel
theorem pn_16 : plainName "com/example/paniere/paniere/DecimalStore" = true := by first | (simp [plainName, overriddenIn]; done) | decide +kernel
theorem ef_rm2 (m : MethodId) (x0 : Int64) : entryFrame m #[(.long x0)] 2 = mkF m 0 #[.val (.long x0), .second] [] := by first | (simp [entryFrame, mkF, argsToLocals, Value.category]; done) | rfl
def own_is (vp : Int64) : Int32 := (if (0 : Int64) < vp then (1 : Int32) else (0 : Int32))
def Q2 (Z : State) (vp : Int64) (h0 : Heap) (n0 : Nat) (v : Option Value) (h : Heap) (L : List Loc) : Prop := v = some (.int (own_is vp)) ∧ Fr n0 L ∧ h = h0
set_option maxRecDepth 65536 in
set_option maxHeartbeats 40000000 in
theorem rm2 (l : Launch) (Z : State) (a0 : Array Value) (hw : ∀ d ∈ tables_1, d.before a0 Z = true) (ws : List Jvm.Cond) (vp : Int64) (h0 : Heap) (n0 : Nat) (Z0 : n0 ≤ h0.size) :
    MetFree l (⟨"com/example/paniere/paniere/DecimalStore", "isPacked", "(J)Z"⟩ : MethodName) (head1 (Jvm.Cond.code (⟨"com/example/paniere/paniere/DecimalStore", "isPacked", "(J)Z"⟩ : MethodName) prog_10_method_4_code 2 (some .boolean) :: ws) ({ frames := 0, cells := 0, slots := 0, locals := 0 } : Room)) (fun a U => a = #[(.long vp)] ∧ Z.Warmed39 U.vm ∧ U.heap = h0) (fun _ _ _ _ _ => True) (fun _ U o U' => ∃ v L, o = .returned v ∧ Q2 Z vp h0 n0 v U'.heap L ∧ FrameEnd U o U' L ({ frames := 0, cells := 0, slots := 0, locals := 0 } : Room).cells ({ frames := 0, cells := 0, slots := 0, locals := 0 } : Room).slots) := by
  refine MetFree.of_bodySF (plainFor_of_name pn_16) hisR ?_
  intro p e s m args below meth c s₁ Bd hml0 hP hK
  obtain ⟨rfl, hZ, hh⟩ := hP
  have hx := Bd.exec
  have hby := Bd.bytes
  have hml : c.maxLocals = 2 := hml0
  have hown : s.vm.findClass "com/example/paniere/paniere/DecimalStore" = some m.cls := findClass_of_methodNamed Bd.named
  have hnm := (name_of_methodNamed Bd.named Bd.method).1
  have X0 : Stand p l e ({ frames := 0, cells := 0, slots := 0, locals := 0 } : Room) s m #[(.long vp)] below meth c s₁ [] 0 0 := Stand.of_body Bd
  have e0 : s₁.heap = h0 := by rw [← hh, Bd.state]; rfl
  have N0 := Fr.nil n0
  have pre0 : ∀ t, Steps p.tables e below (s₁.setTop (mkF m 0 #[.val (.long vp), .second] [])) t → Steps p.tables e below (s₁.setTop (entryFrame m #[(.long vp)] 2)) t := fun t k => castTop (ef_rm2 m vp) k
  have pre1 : ∀ t, Steps p.tables e below (s₁.setTop (mkF m 3 #[.val (.long vp), .second] [(.int (lcmpW vp (0 : Int64)))])) t → Steps p.tables e below (s₁.setTop (entryFrame m #[(.long vp)] 2)) t := by
    intro t kt
    refine pre0 t ?_
    show Steps p.tables e below (s₁.setTop (mkF m 0 #[.val (.long vp), .second] [])) _
    refine XS.lloadN X0.here hx rfl (hb hby d2_0) rfl ?_
    show Steps p.tables e below (s₁.setTop (mkF m 1 #[.val (.long vp), .second] [(.long vp)])) _
    refine XS.lconst X0.here hx rfl (hb hby d2_1) ?_
    show Steps p.tables e below (s₁.setTop (mkF m 2 #[.val (.long vp), .second] [(.long (0 : Int64)), (.long vp)])) _
    refine XS.lcmp X0.here hx rfl (hb hby d2_2) rfl ?_
    exact kt
  by_cases hc2 : (0 : Int64) < vp
  ·
    obtain ⟨fs, hr, hrun, hended, hW, hsame⟩ := X0.leave (v := some (.int (1 : Int32))) (fun h => by rw [Bd.returns] at h; cases h)
    refine ⟨_, _, pre1 _ ?_, hrun, hended, _, _, rfl, ?_, ⟨_, rfl⟩, hW, hsame.mono (by decide) (by decide)⟩
    ·
      show Steps p.tables e below (s₁.setTop (mkF m 3 #[.val (.long vp), .second] [(.int (lcmpW vp (0 : Int64)))])) _
      refine XS.ifNo X0.here hx rfl (hb hby d2_3) rfl ((if0 _ _).trans (tlt (((lw_gt _ _).mpr hc2) : (0 : Int32) < (lcmpW vp (0 : Int64)))).2.2.2) ?_
      show Steps p.tables e below (s₁.setTop (mkF m 6 #[.val (.long vp), .second] [])) _
      refine XS.iconst X0.here hx rfl (hb hby d2_6) ?_
      show Steps p.tables e below (s₁.setTop (mkF m 7 #[.val (.long vp), .second] [(.int (1 : Int32))])) _
      refine XS.goto X0.here hx rfl (pc0 := 7) (pc' := 11) rfl (hb hby d2_7) (by decide) (by decide) ?_
      show Steps p.tables e below (s₁.setTop (mkF m 11 #[.val (.long vp), .second] [(.int (1 : Int32))])) _
      exact retN X0 hx (t := .boolean) Bd.returns (by simp) (hb hby d2_11) hr
    ·
      show Q2 Z vp h0 n0 _ s₁.heap _
      rw [e0]
      have hv : (1 : Int32) = (own_is vp) := by rw [own_is, if_pos hc2]
      exact ⟨(congrArg (fun z => some (Value.int z)) hv), N0, rfl⟩
  ·
    obtain ⟨fs, hr, hrun, hended, hW, hsame⟩ := X0.leave (v := some (.int (0 : Int32))) (fun h => by rw [Bd.returns] at h; cases h)
    refine ⟨_, _, pre1 _ ?_, hrun, hended, _, _, rfl, ?_, ⟨_, rfl⟩, hW, hsame.mono (by decide) (by decide)⟩
    ·
      show Steps p.tables e below (s₁.setTop (mkF m 3 #[.val (.long vp), .second] [(.int (lcmpW vp (0 : Int64)))])) _
      refine XS.ifYes X0.here hx rfl (pc0 := 3) (pc' := 10) rfl (hb hby d2_3) rfl ((if0 _ _).trans (flt ((fun q => hc2 ((lw_gt _ _).mp q)) : ¬ ((0 : Int32) < (lcmpW vp (0 : Int64))))).2.2.2) (by decide) (by decide) ?_
      show Steps p.tables e below (s₁.setTop (mkF m 10 #[.val (.long vp), .second] [])) _
      refine XS.iconst X0.here hx rfl (hb hby d2_10) ?_
      show Steps p.tables e below (s₁.setTop (mkF m 11 #[.val (.long vp), .second] [(.int (0 : Int32))])) _
      exact retN X0 hx (t := .boolean) Bd.returns (by simp) (hb hby d2_11) hr
    ·
      show Q2 Z vp h0 n0 _ s₁.heap _
      rw [e0]
      have hv : (0 : Int32) = (own_is vp) := by rw [own_is, if_neg hc2]
      exact ⟨(congrArg (fun z => some (Value.int z)) hv), N0, rfl⟩

theorem own_is_pos {x : Int64} (h : (0 : Int64) < x) : own_is x = 1 := by rw [own_is, if_pos h]
theorem own_is_neg {x : Int64} (h : ¬ (0 : Int64) < x) : own_is x = 0 := by rw [own_is, if_neg h]
theorem own_pos (u s : BitVec 64) (h1 : u.toNat < 2 ^ 58) (h0 : 0 < u.toNat) (hs : s.toNat < 32) : 0 < (s <<< 58 ||| u).toInt := by
  have e1 : (s <<< 58).toNat = s.toNat * 2 ^ 58 := by
    rw [BitVec.toNat_shiftLeft, Nat.shiftLeft_eq, Nat.mod_eq_of_lt]; omega
  have e2 : (s <<< 58 ||| u).toNat = s.toNat * 2 ^ 58 + u.toNat := by
    rw [BitVec.toNat_or, e1, ← Nat.shiftLeft_eq, Nat.shiftLeft_add_eq_or_of_lt h1]
  rw [BitVec.toInt_eq_toNat_of_lt (by omega), e2]
  omega
theorem own_and_max (u : Int64) : 0 ≤ (u &&& (9223372036854775807 : Int64)).toInt := by
  have : (u &&& (9223372036854775807 : Int64)).toInt = (u.toBitVec &&& 9223372036854775807#64).toInt := rfl
  rw [this, BitVec.toInt_eq_toNat_of_lt]
  · omega
  · rw [BitVec.toNat_and]
    have := Nat.and_le_right (n := u.toBitVec.toNat) (m := (9223372036854775807#64).toNat)
    have e : (9223372036854775807#64).toNat = 9223372036854775807 := rfl
    omega
theorem own_and_max32 (u : Int32) : 0 ≤ (u &&& (2147483647 : Int32)).toInt := by
  have : (u &&& (2147483647 : Int32)).toInt = (u.toBitVec &&& 2147483647#32).toInt := rfl
  rw [this, BitVec.toInt_eq_toNat_of_lt]
  · omega
  · rw [BitVec.toNat_and]
    have := Nat.and_le_right (n := u.toBitVec.toNat) (m := (2147483647#32).toNat)
    have e : (2147483647#32).toNat = 2147483647 := rfl
    omega
theorem own_and31 (u : Int32) : (u &&& (31 : Int32)).toBitVec.toNat < 32 := by
  have : (u &&& (31 : Int32)).toBitVec = u.toBitVec &&& 31#32 := rfl
  rw [this, BitVec.toNat_and]
  have := Nat.and_le_right (n := u.toBitVec.toNat) (m := (31#32).toNat)
  have e : (31#32).toNat = 31 := rfl
  omega
theorem own_p1 (vu : Int64) (vs : Int32) : ¬ ((own_is (own_pack ((1 : Int64) + ((vu &&& (9223372036854775807 : Int64)) % ((288230376151711744 : Int64) - (1 : Int64)))) (vs &&& (31 : Int32)))) = (0 : Int32)) := by
  obtain ⟨u, hu⟩ : ∃ u : Int64, u = (1 : Int64) + (vu &&& (9223372036854775807 : Int64)) % ((288230376151711744 : Int64) - (1 : Int64)) := ⟨_, rfl⟩
  obtain ⟨z, hz⟩ : ∃ z : Int32, z = vs &&& (31 : Int32) := ⟨_, rfl⟩
  rw [← hu, ← hz]
  have hz1 : z.toBitVec.toNat < 32 := hz ▸ own_and31 vs
  have hm : ((vu &&& (9223372036854775807 : Int64)) % ((288230376151711744 : Int64) - (1 : Int64))).toInt = (vu &&& (9223372036854775807 : Int64)).toInt.tmod 288230376151711743 := Int64.toInt_mod _ _
  have h0 := own_and_max vu
  have hu1 : u.toInt = 1 + (vu &&& (9223372036854775807 : Int64)).toInt.tmod 288230376151711743 := by
    have b1 := Int.tmod_nonneg 288230376151711743 h0
    have b2 := Int.tmod_lt_of_pos (vu &&& (9223372036854775807 : Int64)).toInt (show (0 : Int) < 288230376151711743 by decide)
    rw [hu, Int64.toInt_add, hm]
    show (1 + _ : Int).bmod _ = _
    rw [Int.bmod_eq_of_le_mul_two] <;> omega
  have b1 := Int.tmod_nonneg 288230376151711743 h0
  have b2 := Int.tmod_lt_of_pos (vu &&& (9223372036854775807 : Int64)).toInt (show (0 : Int) < 288230376151711743 by decide)
  have hn : (u.toBitVec.toNat : Int) = u.toInt := by
    have := BitVec.toInt_eq_toNat_cond u.toBitVec
    have e : u.toBitVec.toInt = u.toInt := rfl
    have := u.toBitVec.isLt
    split at * <;> omega
  have hp := own_pos u.toBitVec (z.toBitVec.signExtend 64) (by omega) (by omega) (by
    rw [BitVec.signExtend_eq_setWidth_of_msb_false (BitVec.msb_eq_false_iff_two_mul_lt.mpr (by omega)), BitVec.toNat_setWidth]; omega)
  have hk : (0 : Int64) < own_pack u z := by
    rw [Int64.lt_iff_toInt_lt]
    exact hp
  rw [own_is_pos hk]; decide
theorem own_p2 (vi : Int32) : (own_is ((-1 : Int64) - ((vi &&& (2147483647 : Int32)).toInt64))) = (0 : Int32) := by
  refine own_is_neg ?_
  have h0 := own_and_max32 vi
  have h1 := (vi &&& (2147483647 : Int32)).toInt_lt
  have e : (vi &&& (2147483647 : Int32)).toInt64.toInt = (vi &&& (2147483647 : Int32)).toInt := Int32.toInt_toInt64 _
  rw [Int64.lt_iff_toInt_lt, Int64.toInt_sub, e]
  show ¬ (0 : Int) < (-1 - _ : Int).bmod _
  rw [Int.bmod_eq_of_le_mul_two] <;> omega
theorem own_p3 (vj : Int32) : (own_is ((-9223372036854775808 : Int64) + ((vj &&& (2147483647 : Int32)).toInt64))) = (0 : Int32) := by
  refine own_is_neg ?_
  have h0 := own_and_max32 vj
  have h1 := (vj &&& (2147483647 : Int32)).toInt_lt
  have e : (vj &&& (2147483647 : Int32)).toInt64.toInt = (vj &&& (2147483647 : Int32)).toInt := Int32.toInt_toInt64 _
  rw [Int64.lt_iff_toInt_lt, Int64.toInt_add, e]
  show ¬ (0 : Int) < (-9223372036854775808 + _ : Int).bmod _
  rw [Int.bmod_eq_of_le_mul_two] <;> omega
theorem own_p4  : (own_is (0 : Int64)) = (0 : Int32) := own_is_neg (by decide)
theorem pd_0 : parseMethodDescriptor "(JI)J" = some ⟨[.long, .int], some .long⟩ := by decide +kernel
theorem pd_1 : parseMethodDescriptor "(J)Z" = some ⟨[.long], some .boolean⟩ := by decide +kernel
theorem pn_17 : plainName "com/example/paniere/paniere/DecimalStoreIsPackedPinLaw" = true := by first | (simp [plainName, overriddenIn]; done) | decide +kernel
theorem ef_rm0 (m : MethodId) (x0 : Int64) (x1 : Int32) (x2 : Int32) (x3 : Int32) : entryFrame m #[(.long x0), (.int x1), (.int x2), (.int x3)] maxLocals = mkF m 0 #[.val (.long x0), .second, .val (.int x1), .val (.int x2), .val (.int x3), .unset, .unset, .unset, .unset, .unset, .unset, .unset, .unset, .unset, .unset, .unset, .unset, .unset, .unset, .unset] [] := by first | (simp [entryFrame, mkF, argsToLocals, Value.category, maxLocals]; done) | rfl
def Q0 (Z : State) (vu : Int64) (vs : Int32) (vi : Int32) (vj : Int32) (h0 : Heap) (n0 : Nat) (v : Option Value) (h : Heap) (L : List Loc) : Prop := v = some (.int (1 : Int32)) ∧ Fr n0 L
set_option maxRecDepth 65536 in
set_option maxHeartbeats 40000000 in
theorem rm0 (l : Launch) (Z : State) (a0 : Array Value) (hw : ∀ d ∈ tables_1, d.before a0 Z = true) (ws : List Jvm.Cond) (vu : Int64) (vs : Int32) (vi : Int32) (vj : Int32) (h0 : Heap) (n0 : Nat) (Z0 : n0 ≤ h0.size) :
    MetFree l x (head1 (Jvm.Cond.code x code maxLocals ret :: ws) room_1) (fun a U => a = #[(.long vu), (.int vs), (.int vi), (.int vj)] ∧ Z.Warmed39 U.vm ∧ U.heap = h0) (fun _ _ _ _ _ => True) (fun _ U o U' => ∃ v L, o = .returned v ∧ Q0 Z vu vs vi vj h0 n0 v U'.heap L ∧ FrameEnd U o U' L room_1.cells room_1.slots) := by
  refine MetFree.of_bodySF (plainFor_of_name pn_17) hisR ?_
  intro p e s m args below meth c s₁ Bd hml0 hP hK
  obtain ⟨rfl, hZ, hh⟩ := hP
  have hx := Bd.exec
  have hby := Bd.bytes
  have hml : c.maxLocals = 20 := hml0
  have hown : s.vm.findClass "com/example/paniere/paniere/DecimalStoreIsPackedPinLaw" = some m.cls := findClass_of_methodNamed Bd.named
  have hnm := (name_of_methodNamed Bd.named Bd.method).1
  have X0 : Stand p l e room_1 s m #[(.long vu), (.int vs), (.int vi), (.int vj)] below meth c s₁ [] 0 0 := Stand.of_body Bd
  have e0 : s₁.heap = h0 := by rw [← hh, Bd.state]; rfl
  have N0 := Fr.nil n0
  have pre0 : ∀ t, Steps p.tables e below (s₁.setTop (mkF m 0 #[.val (.long vu), .second, .val (.int vs), .val (.int vi), .val (.int vj), .unset, .unset, .unset, .unset, .unset, .unset, .unset, .unset, .unset, .unset, .unset, .unset, .unset, .unset, .unset] [])) t → Steps p.tables e below (s₁.setTop (entryFrame m #[(.long vu), (.int vs), (.int vi), (.int vj)] maxLocals)) t := fun t k => castTop (ef_rm0 m vu vs vi vj) k
  obtain ⟨_, _, ⟨T1, L1, k1, n1⟩, -, X1, ⟨Lc1, hQ1, l1, y1, z1⟩, st1⟩ := Jvm.LawKit.callS X0 hx (y := (⟨"com/example/paniere/paniere/CompactDecimal", "pack", "(JI)J"⟩ : MethodName)) hown (mvT hZ (hw _ (List.mem_of_getElem? (i := 2) rfl))) (mvT hZ (hw _ (List.mem_of_getElem? (i := 3) rfl))) (mvT hZ (hw _ (List.mem_of_getElem? (i := 4) rfl))) (mvT hZ (hw _ (List.mem_of_getElem? (i := 5) rfl))) (by decide) (backOf (W := 0) (rm1 l Z a0 hw [] ((1 : Int64) + ((vu &&& (9223372036854775807 : Int64)) % ((288230376151711744 : Int64) - (1 : Int64)))) (vs &&& (31 : Int32))  h0 n0 Z0 ) hZ (hw _ (List.mem_of_getElem? (i := 5) rfl)) (hw _ (List.mem_of_getElem? (i := 4) rfl)) (by decide) (by decide)) (g := (mkF m 29 #[.val (.long vu), .second, .val (.int vs), .val (.int vi), .val (.int vj), .val (.long (288230376151711744 : Int64)), .second, .val (.long ((1 : Int64) + ((vu &&& (9223372036854775807 : Int64)) % ((288230376151711744 : Int64) - (1 : Int64))))), .second, .val (.int (vs &&& (31 : Int32))), .unset, .unset, .unset, .unset, .unset, .unset, .unset, .unset, .unset, .unset] [(.int (vs &&& (31 : Int32))), (.long ((1 : Int64) + ((vu &&& (9223372036854775807 : Int64)) % ((288230376151711744 : Int64) - (1 : Int64)))))])) rfl (by rw [hml]; rfl) (argsL := [(.long ((1 : Int64) + ((vu &&& (9223372036854775807 : Int64)) % ((288230376151711744 : Int64) - (1 : Int64))))), (.int (vs &&& (31 : Int32)))]) (rest := []) (lenOf pd_0 rfl) rfl (by show 2 * 0 + _ ≤ _; exact Nat.le_of_eq rfl) (hb hby at_29) (fun _ _ => ⟨rfl, e0, (by decide : 0 + 0 ≤ _), (by decide : 0 + 0 ≤ _)⟩)
  dsimp only [Pt.U, Pt.locs, Pt.cells, Pt.slots] at X1 l1 y1 z1 st1 hQ1
  subst l1 y1 z1
  obtain ⟨rfl, N1q, e1q⟩ := hQ1
  have N1 := Fr.app N0 N1q
  obtain ⟨_, _, ⟨T2, L2, k2, n2⟩, -, X2, ⟨Lc2, hQ2, l2, y2, z2⟩, st2⟩ := Jvm.LawKit.callS X1 hx (y := (⟨"com/example/paniere/paniere/DecimalStore", "isPacked", "(J)Z"⟩ : MethodName)) hown (mvT hZ (hw _ (List.mem_of_getElem? (i := 9) rfl))) (mvT hZ (hw _ (List.mem_of_getElem? (i := 10) rfl))) (mvT hZ (hw _ (List.mem_of_getElem? (i := 11) rfl))) (mvT hZ (hw _ (List.mem_of_getElem? (i := 12) rfl))) (by decide) (backOf (W := 0) (rm2 l Z a0 hw [] (own_pack ((1 : Int64) + ((vu &&& (9223372036854775807 : Int64)) % ((288230376151711744 : Int64) - (1 : Int64)))) (vs &&& (31 : Int32)))  h0 n0 Z0 ) hZ (hw _ (List.mem_of_getElem? (i := 12) rfl)) (hw _ (List.mem_of_getElem? (i := 11) rfl)) (by decide) (by decide)) (g := (mkF m 59 #[.val (.long vu), .second, .val (.int vs), .val (.int vi), .val (.int vj), .val (.long (288230376151711744 : Int64)), .second, .val (.long ((1 : Int64) + ((vu &&& (9223372036854775807 : Int64)) % ((288230376151711744 : Int64) - (1 : Int64))))), .second, .val (.int (vs &&& (31 : Int32))), .val (.long (own_pack ((1 : Int64) + ((vu &&& (9223372036854775807 : Int64)) % ((288230376151711744 : Int64) - (1 : Int64)))) (vs &&& (31 : Int32)))), .second, .val (.long ((-1 : Int64) - ((vi &&& (2147483647 : Int32)).toInt64))), .second, .val (.long ((-9223372036854775808 : Int64) + ((vj &&& (2147483647 : Int32)).toInt64))), .second, .unset, .unset, .unset, .unset] [(.long (own_pack ((1 : Int64) + ((vu &&& (9223372036854775807 : Int64)) % ((288230376151711744 : Int64) - (1 : Int64)))) (vs &&& (31 : Int32))))])) rfl (by rw [hml]; rfl) (argsL := [(.long (own_pack ((1 : Int64) + ((vu &&& (9223372036854775807 : Int64)) % ((288230376151711744 : Int64) - (1 : Int64)))) (vs &&& (31 : Int32))))]) (rest := []) (lenOf pd_1 rfl) rfl (by show 2 * 0 + _ ≤ _; exact Nat.le_of_eq rfl) (hb hby at_59) (fun _ _ => ⟨rfl, e1q, (by decide : 0 + 0 ≤ _), (by decide : 0 + 0 ≤ _)⟩)
  dsimp only [Pt.U, Pt.locs, Pt.cells, Pt.slots] at X2 l2 y2 z2 st2 hQ2
  subst l2 y2 z2
  obtain ⟨rfl, N2q, e2q⟩ := hQ2
  have N2 := Fr.app N1 N2q
  obtain ⟨_, _, ⟨T3, L3, k3, n3⟩, -, X3, ⟨Lc3, hQ3, l3, y3, z3⟩, st3⟩ := Jvm.LawKit.callS X2 hx (y := (⟨"com/example/paniere/paniere/DecimalStore", "isPacked", "(J)Z"⟩ : MethodName)) hown (mvT hZ (hw _ (List.mem_of_getElem? (i := 9) rfl))) (mvT hZ (hw _ (List.mem_of_getElem? (i := 10) rfl))) (mvT hZ (hw _ (List.mem_of_getElem? (i := 11) rfl))) (mvT hZ (hw _ (List.mem_of_getElem? (i := 12) rfl))) (by decide) (backOf (W := 0) (rm2 l Z a0 hw [] ((-1 : Int64) - ((vi &&& (2147483647 : Int32)).toInt64))  h0 n0 Z0 ) hZ (hw _ (List.mem_of_getElem? (i := 12) rfl)) (hw _ (List.mem_of_getElem? (i := 11) rfl)) (by decide) (by decide)) (g := (mkF m 66 #[.val (.long vu), .second, .val (.int vs), .val (.int vi), .val (.int vj), .val (.long (288230376151711744 : Int64)), .second, .val (.long ((1 : Int64) + ((vu &&& (9223372036854775807 : Int64)) % ((288230376151711744 : Int64) - (1 : Int64))))), .second, .val (.int (vs &&& (31 : Int32))), .val (.long (own_pack ((1 : Int64) + ((vu &&& (9223372036854775807 : Int64)) % ((288230376151711744 : Int64) - (1 : Int64)))) (vs &&& (31 : Int32)))), .second, .val (.long ((-1 : Int64) - ((vi &&& (2147483647 : Int32)).toInt64))), .second, .val (.long ((-9223372036854775808 : Int64) + ((vj &&& (2147483647 : Int32)).toInt64))), .second, .val (.int (own_is (own_pack ((1 : Int64) + ((vu &&& (9223372036854775807 : Int64)) % ((288230376151711744 : Int64) - (1 : Int64)))) (vs &&& (31 : Int32))))), .unset, .unset, .unset] [(.long ((-1 : Int64) - ((vi &&& (2147483647 : Int32)).toInt64)))])) rfl (by rw [hml]; rfl) (argsL := [(.long ((-1 : Int64) - ((vi &&& (2147483647 : Int32)).toInt64)))]) (rest := []) (lenOf pd_1 rfl) rfl (by show 2 * 0 + _ ≤ _; exact Nat.le_of_eq rfl) (hb hby at_66) (fun _ _ => ⟨rfl, e2q, (by decide : 0 + 0 ≤ _), (by decide : 0 + 0 ≤ _)⟩)
  dsimp only [Pt.U, Pt.locs, Pt.cells, Pt.slots] at X3 l3 y3 z3 st3 hQ3
  subst l3 y3 z3
  obtain ⟨rfl, N3q, e3q⟩ := hQ3
  have N3 := Fr.app N2 N3q
  obtain ⟨_, _, ⟨T4, L4, k4, n4⟩, -, X4, ⟨Lc4, hQ4, l4, y4, z4⟩, st4⟩ := Jvm.LawKit.callS X3 hx (y := (⟨"com/example/paniere/paniere/DecimalStore", "isPacked", "(J)Z"⟩ : MethodName)) hown (mvT hZ (hw _ (List.mem_of_getElem? (i := 9) rfl))) (mvT hZ (hw _ (List.mem_of_getElem? (i := 10) rfl))) (mvT hZ (hw _ (List.mem_of_getElem? (i := 11) rfl))) (mvT hZ (hw _ (List.mem_of_getElem? (i := 12) rfl))) (by decide) (backOf (W := 0) (rm2 l Z a0 hw [] ((-9223372036854775808 : Int64) + ((vj &&& (2147483647 : Int32)).toInt64))  h0 n0 Z0 ) hZ (hw _ (List.mem_of_getElem? (i := 12) rfl)) (hw _ (List.mem_of_getElem? (i := 11) rfl)) (by decide) (by decide)) (g := (mkF m 73 #[.val (.long vu), .second, .val (.int vs), .val (.int vi), .val (.int vj), .val (.long (288230376151711744 : Int64)), .second, .val (.long ((1 : Int64) + ((vu &&& (9223372036854775807 : Int64)) % ((288230376151711744 : Int64) - (1 : Int64))))), .second, .val (.int (vs &&& (31 : Int32))), .val (.long (own_pack ((1 : Int64) + ((vu &&& (9223372036854775807 : Int64)) % ((288230376151711744 : Int64) - (1 : Int64)))) (vs &&& (31 : Int32)))), .second, .val (.long ((-1 : Int64) - ((vi &&& (2147483647 : Int32)).toInt64))), .second, .val (.long ((-9223372036854775808 : Int64) + ((vj &&& (2147483647 : Int32)).toInt64))), .second, .val (.int (own_is (own_pack ((1 : Int64) + ((vu &&& (9223372036854775807 : Int64)) % ((288230376151711744 : Int64) - (1 : Int64)))) (vs &&& (31 : Int32))))), .val (.int (own_is ((-1 : Int64) - ((vi &&& (2147483647 : Int32)).toInt64)))), .unset, .unset] [(.long ((-9223372036854775808 : Int64) + ((vj &&& (2147483647 : Int32)).toInt64)))])) rfl (by rw [hml]; rfl) (argsL := [(.long ((-9223372036854775808 : Int64) + ((vj &&& (2147483647 : Int32)).toInt64)))]) (rest := []) (lenOf pd_1 rfl) rfl (by show 2 * 0 + _ ≤ _; exact Nat.le_of_eq rfl) (hb hby at_73) (fun _ _ => ⟨rfl, e3q, (by decide : 0 + 0 ≤ _), (by decide : 0 + 0 ≤ _)⟩)
  dsimp only [Pt.U, Pt.locs, Pt.cells, Pt.slots] at X4 l4 y4 z4 st4 hQ4
  subst l4 y4 z4
  obtain ⟨rfl, N4q, e4q⟩ := hQ4
  have N4 := Fr.app N3 N4q
  obtain ⟨_, _, ⟨T5, L5, k5, n5⟩, -, X5, ⟨Lc5, hQ5, l5, y5, z5⟩, st5⟩ := Jvm.LawKit.callS X4 hx (y := (⟨"com/example/paniere/paniere/DecimalStore", "isPacked", "(J)Z"⟩ : MethodName)) hown (mvT hZ (hw _ (List.mem_of_getElem? (i := 9) rfl))) (mvT hZ (hw _ (List.mem_of_getElem? (i := 10) rfl))) (mvT hZ (hw _ (List.mem_of_getElem? (i := 11) rfl))) (mvT hZ (hw _ (List.mem_of_getElem? (i := 12) rfl))) (by decide) (backOf (W := 0) (rm2 l Z a0 hw [] (0 : Int64)  h0 n0 Z0 ) hZ (hw _ (List.mem_of_getElem? (i := 12) rfl)) (hw _ (List.mem_of_getElem? (i := 11) rfl)) (by decide) (by decide)) (g := (mkF m 79 #[.val (.long vu), .second, .val (.int vs), .val (.int vi), .val (.int vj), .val (.long (288230376151711744 : Int64)), .second, .val (.long ((1 : Int64) + ((vu &&& (9223372036854775807 : Int64)) % ((288230376151711744 : Int64) - (1 : Int64))))), .second, .val (.int (vs &&& (31 : Int32))), .val (.long (own_pack ((1 : Int64) + ((vu &&& (9223372036854775807 : Int64)) % ((288230376151711744 : Int64) - (1 : Int64)))) (vs &&& (31 : Int32)))), .second, .val (.long ((-1 : Int64) - ((vi &&& (2147483647 : Int32)).toInt64))), .second, .val (.long ((-9223372036854775808 : Int64) + ((vj &&& (2147483647 : Int32)).toInt64))), .second, .val (.int (own_is (own_pack ((1 : Int64) + ((vu &&& (9223372036854775807 : Int64)) % ((288230376151711744 : Int64) - (1 : Int64)))) (vs &&& (31 : Int32))))), .val (.int (own_is ((-1 : Int64) - ((vi &&& (2147483647 : Int32)).toInt64)))), .val (.int (own_is ((-9223372036854775808 : Int64) + ((vj &&& (2147483647 : Int32)).toInt64)))), .unset] [(.long (0 : Int64))])) rfl (by rw [hml]; rfl) (argsL := [(.long (0 : Int64))]) (rest := []) (lenOf pd_1 rfl) rfl (by show 2 * 0 + _ ≤ _; exact Nat.le_of_eq rfl) (hb hby at_79) (fun _ _ => ⟨rfl, e4q, (by decide : 0 + 0 ≤ _), (by decide : 0 + 0 ≤ _)⟩)
  dsimp only [Pt.U, Pt.locs, Pt.cells, Pt.slots] at X5 l5 y5 z5 st5 hQ5
  subst l5 y5 z5
  obtain ⟨rfl, N5q, e5q⟩ := hQ5
  have N5 := Fr.app N4 N5q
  obtain ⟨fs, hr, hrun, hended, hW, hsame⟩ := X5.leave (v := some (.int (1 : Int32))) (fun h => by rw [Bd.returns] at h; cases h)
  refine ⟨_, _, pre0 _ ?_, hrun, hended, _, _, rfl, ?_, ⟨_, rfl⟩, hW, hsame.mono (by decide) (by decide)⟩
  ·
    show Steps p.tables e below (s₁.setTop (mkF m 0 #[.val (.long vu), .second, .val (.int vs), .val (.int vi), .val (.int vj), .unset, .unset, .unset, .unset, .unset, .unset, .unset, .unset, .unset, .unset, .unset, .unset, .unset, .unset, .unset] [])) _
    refine X0.ldc2J hx hown (mvT hZ (hw _ (List.mem_of_getElem? (i := 0) rfl))) (g := (mkF m 0 #[.val (.long vu), .second, .val (.int vs), .val (.int vi), .val (.int vj), .unset, .unset, .unset, .unset, .unset, .unset, .unset, .unset, .unset, .unset, .unset, .unset, .unset, .unset, .unset] [])) rfl (hb hby at_0) ?_
    show Steps p.tables e below (s₁.setTop (mkF m 3 #[.val (.long vu), .second, .val (.int vs), .val (.int vi), .val (.int vj), .unset, .unset, .unset, .unset, .unset, .unset, .unset, .unset, .unset, .unset, .unset, .unset, .unset, .unset, .unset] [(.long (288230376151711744 : Int64))])) _
    refine XS.lstore X0.here hx rfl (hb hby at_3) rfl (l' := #[.val (.long vu), .second, .val (.int vs), .val (.int vi), .val (.int vj), .val (.long (288230376151711744 : Int64)), .second, .unset, .unset, .unset, .unset, .unset, .unset, .unset, .unset, .unset, .unset, .unset, .unset, .unset]) rfl ?_
    show Steps p.tables e below (s₁.setTop (mkF m 5 #[.val (.long vu), .second, .val (.int vs), .val (.int vi), .val (.int vj), .val (.long (288230376151711744 : Int64)), .second, .unset, .unset, .unset, .unset, .unset, .unset, .unset, .unset, .unset, .unset, .unset, .unset, .unset] [])) _
    refine XS.lconst X0.here hx rfl (hb hby at_5) ?_
    show Steps p.tables e below (s₁.setTop (mkF m 6 #[.val (.long vu), .second, .val (.int vs), .val (.int vi), .val (.int vj), .val (.long (288230376151711744 : Int64)), .second, .unset, .unset, .unset, .unset, .unset, .unset, .unset, .unset, .unset, .unset, .unset, .unset, .unset] [(.long (1 : Int64))])) _
    refine XS.lloadN X0.here hx rfl (hb hby at_6) rfl ?_
    show Steps p.tables e below (s₁.setTop (mkF m 7 #[.val (.long vu), .second, .val (.int vs), .val (.int vi), .val (.int vj), .val (.long (288230376151711744 : Int64)), .second, .unset, .unset, .unset, .unset, .unset, .unset, .unset, .unset, .unset, .unset, .unset, .unset, .unset] [(.long vu), (.long (1 : Int64))])) _
    refine X0.ldc2J hx hown (mvT hZ (hw _ (List.mem_of_getElem? (i := 1) rfl))) (g := (mkF m 7 #[.val (.long vu), .second, .val (.int vs), .val (.int vi), .val (.int vj), .val (.long (288230376151711744 : Int64)), .second, .unset, .unset, .unset, .unset, .unset, .unset, .unset, .unset, .unset, .unset, .unset, .unset, .unset] [(.long vu), (.long (1 : Int64))])) rfl (hb hby at_7) ?_
    show Steps p.tables e below (s₁.setTop (mkF m 10 #[.val (.long vu), .second, .val (.int vs), .val (.int vi), .val (.int vj), .val (.long (288230376151711744 : Int64)), .second, .unset, .unset, .unset, .unset, .unset, .unset, .unset, .unset, .unset, .unset, .unset, .unset, .unset] [(.long (9223372036854775807 : Int64)), (.long vu), (.long (1 : Int64))])) _
    refine XS.land X0.here hx rfl (hb hby at_10) rfl ?_
    show Steps p.tables e below (s₁.setTop (mkF m 11 #[.val (.long vu), .second, .val (.int vs), .val (.int vi), .val (.int vj), .val (.long (288230376151711744 : Int64)), .second, .unset, .unset, .unset, .unset, .unset, .unset, .unset, .unset, .unset, .unset, .unset, .unset, .unset] [(.long (vu &&& (9223372036854775807 : Int64))), (.long (1 : Int64))])) _
    refine XS.lload X0.here hx rfl (hb hby at_11) rfl ?_
    show Steps p.tables e below (s₁.setTop (mkF m 13 #[.val (.long vu), .second, .val (.int vs), .val (.int vi), .val (.int vj), .val (.long (288230376151711744 : Int64)), .second, .unset, .unset, .unset, .unset, .unset, .unset, .unset, .unset, .unset, .unset, .unset, .unset, .unset] [(.long (288230376151711744 : Int64)), (.long (vu &&& (9223372036854775807 : Int64))), (.long (1 : Int64))])) _
    refine XS.lconst X0.here hx rfl (hb hby at_13) ?_
    show Steps p.tables e below (s₁.setTop (mkF m 14 #[.val (.long vu), .second, .val (.int vs), .val (.int vi), .val (.int vj), .val (.long (288230376151711744 : Int64)), .second, .unset, .unset, .unset, .unset, .unset, .unset, .unset, .unset, .unset, .unset, .unset, .unset, .unset] [(.long (1 : Int64)), (.long (288230376151711744 : Int64)), (.long (vu &&& (9223372036854775807 : Int64))), (.long (1 : Int64))])) _
    refine XS.lsub X0.here hx rfl (hb hby at_14) rfl ?_
    show Steps p.tables e below (s₁.setTop (mkF m 15 #[.val (.long vu), .second, .val (.int vs), .val (.int vi), .val (.int vj), .val (.long (288230376151711744 : Int64)), .second, .unset, .unset, .unset, .unset, .unset, .unset, .unset, .unset, .unset, .unset, .unset, .unset, .unset] [(.long ((288230376151711744 : Int64) - (1 : Int64))), (.long (vu &&& (9223372036854775807 : Int64))), (.long (1 : Int64))])) _
    refine own_lremM X0 hx rfl (hb hby at_15) rfl (by decide) ?_
    show Steps p.tables e below (s₁.setTop (mkF m 16 #[.val (.long vu), .second, .val (.int vs), .val (.int vi), .val (.int vj), .val (.long (288230376151711744 : Int64)), .second, .unset, .unset, .unset, .unset, .unset, .unset, .unset, .unset, .unset, .unset, .unset, .unset, .unset] [(.long ((vu &&& (9223372036854775807 : Int64)) % ((288230376151711744 : Int64) - (1 : Int64)))), (.long (1 : Int64))])) _
    refine XS.ladd X0.here hx rfl (hb hby at_16) rfl ?_
    show Steps p.tables e below (s₁.setTop (mkF m 17 #[.val (.long vu), .second, .val (.int vs), .val (.int vi), .val (.int vj), .val (.long (288230376151711744 : Int64)), .second, .unset, .unset, .unset, .unset, .unset, .unset, .unset, .unset, .unset, .unset, .unset, .unset, .unset] [(.long ((1 : Int64) + ((vu &&& (9223372036854775807 : Int64)) % ((288230376151711744 : Int64) - (1 : Int64)))))])) _
    refine XS.lstore X0.here hx rfl (hb hby at_17) rfl (l' := #[.val (.long vu), .second, .val (.int vs), .val (.int vi), .val (.int vj), .val (.long (288230376151711744 : Int64)), .second, .val (.long ((1 : Int64) + ((vu &&& (9223372036854775807 : Int64)) % ((288230376151711744 : Int64) - (1 : Int64))))), .second, .unset, .unset, .unset, .unset, .unset, .unset, .unset, .unset, .unset, .unset, .unset]) rfl ?_
    show Steps p.tables e below (s₁.setTop (mkF m 19 #[.val (.long vu), .second, .val (.int vs), .val (.int vi), .val (.int vj), .val (.long (288230376151711744 : Int64)), .second, .val (.long ((1 : Int64) + ((vu &&& (9223372036854775807 : Int64)) % ((288230376151711744 : Int64) - (1 : Int64))))), .second, .unset, .unset, .unset, .unset, .unset, .unset, .unset, .unset, .unset, .unset, .unset] [])) _
    refine XS.iloadN X0.here hx rfl (hb hby at_19) rfl ?_
    show Steps p.tables e below (s₁.setTop (mkF m 20 #[.val (.long vu), .second, .val (.int vs), .val (.int vi), .val (.int vj), .val (.long (288230376151711744 : Int64)), .second, .val (.long ((1 : Int64) + ((vu &&& (9223372036854775807 : Int64)) % ((288230376151711744 : Int64) - (1 : Int64))))), .second, .unset, .unset, .unset, .unset, .unset, .unset, .unset, .unset, .unset, .unset, .unset] [(.int vs)])) _
    refine XS.bipush X0.here hx rfl (hb hby at_20) ?_
    show Steps p.tables e below (s₁.setTop (mkF m 22 #[.val (.long vu), .second, .val (.int vs), .val (.int vi), .val (.int vj), .val (.long (288230376151711744 : Int64)), .second, .val (.long ((1 : Int64) + ((vu &&& (9223372036854775807 : Int64)) % ((288230376151711744 : Int64) - (1 : Int64))))), .second, .unset, .unset, .unset, .unset, .unset, .unset, .unset, .unset, .unset, .unset, .unset] [(.int (31 : Int32)), (.int vs)])) _
    refine XS.iand X0.here hx rfl (hb hby at_22) rfl ?_
    show Steps p.tables e below (s₁.setTop (mkF m 23 #[.val (.long vu), .second, .val (.int vs), .val (.int vi), .val (.int vj), .val (.long (288230376151711744 : Int64)), .second, .val (.long ((1 : Int64) + ((vu &&& (9223372036854775807 : Int64)) % ((288230376151711744 : Int64) - (1 : Int64))))), .second, .unset, .unset, .unset, .unset, .unset, .unset, .unset, .unset, .unset, .unset, .unset] [(.int (vs &&& (31 : Int32)))])) _
    refine XS.istore X0.here hx rfl (hb hby at_23) rfl (l' := #[.val (.long vu), .second, .val (.int vs), .val (.int vi), .val (.int vj), .val (.long (288230376151711744 : Int64)), .second, .val (.long ((1 : Int64) + ((vu &&& (9223372036854775807 : Int64)) % ((288230376151711744 : Int64) - (1 : Int64))))), .second, .val (.int (vs &&& (31 : Int32))), .unset, .unset, .unset, .unset, .unset, .unset, .unset, .unset, .unset, .unset]) rfl ?_
    show Steps p.tables e below (s₁.setTop (mkF m 25 #[.val (.long vu), .second, .val (.int vs), .val (.int vi), .val (.int vj), .val (.long (288230376151711744 : Int64)), .second, .val (.long ((1 : Int64) + ((vu &&& (9223372036854775807 : Int64)) % ((288230376151711744 : Int64) - (1 : Int64))))), .second, .val (.int (vs &&& (31 : Int32))), .unset, .unset, .unset, .unset, .unset, .unset, .unset, .unset, .unset, .unset] [])) _
    refine XS.lload X0.here hx rfl (hb hby at_25) rfl ?_
    show Steps p.tables e below (s₁.setTop (mkF m 27 #[.val (.long vu), .second, .val (.int vs), .val (.int vi), .val (.int vj), .val (.long (288230376151711744 : Int64)), .second, .val (.long ((1 : Int64) + ((vu &&& (9223372036854775807 : Int64)) % ((288230376151711744 : Int64) - (1 : Int64))))), .second, .val (.int (vs &&& (31 : Int32))), .unset, .unset, .unset, .unset, .unset, .unset, .unset, .unset, .unset, .unset] [(.long ((1 : Int64) + ((vu &&& (9223372036854775807 : Int64)) % ((288230376151711744 : Int64) - (1 : Int64)))))])) _
    refine XS.iload X0.here hx rfl (hb hby at_27) rfl ?_
    show Steps p.tables e below (s₁.setTop (mkF m 29 #[.val (.long vu), .second, .val (.int vs), .val (.int vi), .val (.int vj), .val (.long (288230376151711744 : Int64)), .second, .val (.long ((1 : Int64) + ((vu &&& (9223372036854775807 : Int64)) % ((288230376151711744 : Int64) - (1 : Int64))))), .second, .val (.int (vs &&& (31 : Int32))), .unset, .unset, .unset, .unset, .unset, .unset, .unset, .unset, .unset, .unset] [(.int (vs &&& (31 : Int32))), (.long ((1 : Int64) + ((vu &&& (9223372036854775807 : Int64)) % ((288230376151711744 : Int64) - (1 : Int64)))))])) _
    refine st1 _ ?_
    show Steps p.tables e below (T1.setTop (mkF m 32 #[.val (.long vu), .second, .val (.int vs), .val (.int vi), .val (.int vj), .val (.long (288230376151711744 : Int64)), .second, .val (.long ((1 : Int64) + ((vu &&& (9223372036854775807 : Int64)) % ((288230376151711744 : Int64) - (1 : Int64))))), .second, .val (.int (vs &&& (31 : Int32))), .unset, .unset, .unset, .unset, .unset, .unset, .unset, .unset, .unset, .unset] [(.long (own_pack ((1 : Int64) + ((vu &&& (9223372036854775807 : Int64)) % ((288230376151711744 : Int64) - (1 : Int64)))) (vs &&& (31 : Int32))))])) _
    refine XS.lstore X1.here hx rfl (hb hby at_32) rfl (l' := #[.val (.long vu), .second, .val (.int vs), .val (.int vi), .val (.int vj), .val (.long (288230376151711744 : Int64)), .second, .val (.long ((1 : Int64) + ((vu &&& (9223372036854775807 : Int64)) % ((288230376151711744 : Int64) - (1 : Int64))))), .second, .val (.int (vs &&& (31 : Int32))), .val (.long (own_pack ((1 : Int64) + ((vu &&& (9223372036854775807 : Int64)) % ((288230376151711744 : Int64) - (1 : Int64)))) (vs &&& (31 : Int32)))), .second, .unset, .unset, .unset, .unset, .unset, .unset, .unset, .unset]) rfl ?_
    show Steps p.tables e below (T1.setTop (mkF m 34 #[.val (.long vu), .second, .val (.int vs), .val (.int vi), .val (.int vj), .val (.long (288230376151711744 : Int64)), .second, .val (.long ((1 : Int64) + ((vu &&& (9223372036854775807 : Int64)) % ((288230376151711744 : Int64) - (1 : Int64))))), .second, .val (.int (vs &&& (31 : Int32))), .val (.long (own_pack ((1 : Int64) + ((vu &&& (9223372036854775807 : Int64)) % ((288230376151711744 : Int64) - (1 : Int64)))) (vs &&& (31 : Int32)))), .second, .unset, .unset, .unset, .unset, .unset, .unset, .unset, .unset] [])) _
    refine X1.ldc2J hx hown (mvT hZ (hw _ (List.mem_of_getElem? (i := 6) rfl))) (g := (mkF m 34 #[.val (.long vu), .second, .val (.int vs), .val (.int vi), .val (.int vj), .val (.long (288230376151711744 : Int64)), .second, .val (.long ((1 : Int64) + ((vu &&& (9223372036854775807 : Int64)) % ((288230376151711744 : Int64) - (1 : Int64))))), .second, .val (.int (vs &&& (31 : Int32))), .val (.long (own_pack ((1 : Int64) + ((vu &&& (9223372036854775807 : Int64)) % ((288230376151711744 : Int64) - (1 : Int64)))) (vs &&& (31 : Int32)))), .second, .unset, .unset, .unset, .unset, .unset, .unset, .unset, .unset] [])) rfl (hb hby at_34) ?_
    show Steps p.tables e below (T1.setTop (mkF m 37 #[.val (.long vu), .second, .val (.int vs), .val (.int vi), .val (.int vj), .val (.long (288230376151711744 : Int64)), .second, .val (.long ((1 : Int64) + ((vu &&& (9223372036854775807 : Int64)) % ((288230376151711744 : Int64) - (1 : Int64))))), .second, .val (.int (vs &&& (31 : Int32))), .val (.long (own_pack ((1 : Int64) + ((vu &&& (9223372036854775807 : Int64)) % ((288230376151711744 : Int64) - (1 : Int64)))) (vs &&& (31 : Int32)))), .second, .unset, .unset, .unset, .unset, .unset, .unset, .unset, .unset] [(.long (-1 : Int64))])) _
    refine XS.iloadN X1.here hx rfl (hb hby at_37) rfl ?_
    show Steps p.tables e below (T1.setTop (mkF m 38 #[.val (.long vu), .second, .val (.int vs), .val (.int vi), .val (.int vj), .val (.long (288230376151711744 : Int64)), .second, .val (.long ((1 : Int64) + ((vu &&& (9223372036854775807 : Int64)) % ((288230376151711744 : Int64) - (1 : Int64))))), .second, .val (.int (vs &&& (31 : Int32))), .val (.long (own_pack ((1 : Int64) + ((vu &&& (9223372036854775807 : Int64)) % ((288230376151711744 : Int64) - (1 : Int64)))) (vs &&& (31 : Int32)))), .second, .unset, .unset, .unset, .unset, .unset, .unset, .unset, .unset] [(.int vi), (.long (-1 : Int64))])) _
    refine X1.ldcI hx hown (mvT hZ (hw _ (List.mem_of_getElem? (i := 7) rfl))) (g := (mkF m 38 #[.val (.long vu), .second, .val (.int vs), .val (.int vi), .val (.int vj), .val (.long (288230376151711744 : Int64)), .second, .val (.long ((1 : Int64) + ((vu &&& (9223372036854775807 : Int64)) % ((288230376151711744 : Int64) - (1 : Int64))))), .second, .val (.int (vs &&& (31 : Int32))), .val (.long (own_pack ((1 : Int64) + ((vu &&& (9223372036854775807 : Int64)) % ((288230376151711744 : Int64) - (1 : Int64)))) (vs &&& (31 : Int32)))), .second, .unset, .unset, .unset, .unset, .unset, .unset, .unset, .unset] [(.int vi), (.long (-1 : Int64))])) rfl (hb hby at_38) ?_
    show Steps p.tables e below (T1.setTop (mkF m 40 #[.val (.long vu), .second, .val (.int vs), .val (.int vi), .val (.int vj), .val (.long (288230376151711744 : Int64)), .second, .val (.long ((1 : Int64) + ((vu &&& (9223372036854775807 : Int64)) % ((288230376151711744 : Int64) - (1 : Int64))))), .second, .val (.int (vs &&& (31 : Int32))), .val (.long (own_pack ((1 : Int64) + ((vu &&& (9223372036854775807 : Int64)) % ((288230376151711744 : Int64) - (1 : Int64)))) (vs &&& (31 : Int32)))), .second, .unset, .unset, .unset, .unset, .unset, .unset, .unset, .unset] [(.int (2147483647 : Int32)), (.int vi), (.long (-1 : Int64))])) _
    refine XS.iand X1.here hx rfl (hb hby at_40) rfl ?_
    show Steps p.tables e below (T1.setTop (mkF m 41 #[.val (.long vu), .second, .val (.int vs), .val (.int vi), .val (.int vj), .val (.long (288230376151711744 : Int64)), .second, .val (.long ((1 : Int64) + ((vu &&& (9223372036854775807 : Int64)) % ((288230376151711744 : Int64) - (1 : Int64))))), .second, .val (.int (vs &&& (31 : Int32))), .val (.long (own_pack ((1 : Int64) + ((vu &&& (9223372036854775807 : Int64)) % ((288230376151711744 : Int64) - (1 : Int64)))) (vs &&& (31 : Int32)))), .second, .unset, .unset, .unset, .unset, .unset, .unset, .unset, .unset] [(.int (vi &&& (2147483647 : Int32))), (.long (-1 : Int64))])) _
    refine XS.i2l X1.here hx rfl (hb hby at_41) rfl ?_
    show Steps p.tables e below (T1.setTop (mkF m 42 #[.val (.long vu), .second, .val (.int vs), .val (.int vi), .val (.int vj), .val (.long (288230376151711744 : Int64)), .second, .val (.long ((1 : Int64) + ((vu &&& (9223372036854775807 : Int64)) % ((288230376151711744 : Int64) - (1 : Int64))))), .second, .val (.int (vs &&& (31 : Int32))), .val (.long (own_pack ((1 : Int64) + ((vu &&& (9223372036854775807 : Int64)) % ((288230376151711744 : Int64) - (1 : Int64)))) (vs &&& (31 : Int32)))), .second, .unset, .unset, .unset, .unset, .unset, .unset, .unset, .unset] [(.long ((vi &&& (2147483647 : Int32)).toInt64)), (.long (-1 : Int64))])) _
    refine XS.lsub X1.here hx rfl (hb hby at_42) rfl ?_
    show Steps p.tables e below (T1.setTop (mkF m 43 #[.val (.long vu), .second, .val (.int vs), .val (.int vi), .val (.int vj), .val (.long (288230376151711744 : Int64)), .second, .val (.long ((1 : Int64) + ((vu &&& (9223372036854775807 : Int64)) % ((288230376151711744 : Int64) - (1 : Int64))))), .second, .val (.int (vs &&& (31 : Int32))), .val (.long (own_pack ((1 : Int64) + ((vu &&& (9223372036854775807 : Int64)) % ((288230376151711744 : Int64) - (1 : Int64)))) (vs &&& (31 : Int32)))), .second, .unset, .unset, .unset, .unset, .unset, .unset, .unset, .unset] [(.long ((-1 : Int64) - ((vi &&& (2147483647 : Int32)).toInt64)))])) _
    refine XS.lstore X1.here hx rfl (hb hby at_43) rfl (l' := #[.val (.long vu), .second, .val (.int vs), .val (.int vi), .val (.int vj), .val (.long (288230376151711744 : Int64)), .second, .val (.long ((1 : Int64) + ((vu &&& (9223372036854775807 : Int64)) % ((288230376151711744 : Int64) - (1 : Int64))))), .second, .val (.int (vs &&& (31 : Int32))), .val (.long (own_pack ((1 : Int64) + ((vu &&& (9223372036854775807 : Int64)) % ((288230376151711744 : Int64) - (1 : Int64)))) (vs &&& (31 : Int32)))), .second, .val (.long ((-1 : Int64) - ((vi &&& (2147483647 : Int32)).toInt64))), .second, .unset, .unset, .unset, .unset, .unset, .unset]) rfl ?_
    show Steps p.tables e below (T1.setTop (mkF m 45 #[.val (.long vu), .second, .val (.int vs), .val (.int vi), .val (.int vj), .val (.long (288230376151711744 : Int64)), .second, .val (.long ((1 : Int64) + ((vu &&& (9223372036854775807 : Int64)) % ((288230376151711744 : Int64) - (1 : Int64))))), .second, .val (.int (vs &&& (31 : Int32))), .val (.long (own_pack ((1 : Int64) + ((vu &&& (9223372036854775807 : Int64)) % ((288230376151711744 : Int64) - (1 : Int64)))) (vs &&& (31 : Int32)))), .second, .val (.long ((-1 : Int64) - ((vi &&& (2147483647 : Int32)).toInt64))), .second, .unset, .unset, .unset, .unset, .unset, .unset] [])) _
    refine X1.ldc2J hx hown (mvT hZ (hw _ (List.mem_of_getElem? (i := 8) rfl))) (g := (mkF m 45 #[.val (.long vu), .second, .val (.int vs), .val (.int vi), .val (.int vj), .val (.long (288230376151711744 : Int64)), .second, .val (.long ((1 : Int64) + ((vu &&& (9223372036854775807 : Int64)) % ((288230376151711744 : Int64) - (1 : Int64))))), .second, .val (.int (vs &&& (31 : Int32))), .val (.long (own_pack ((1 : Int64) + ((vu &&& (9223372036854775807 : Int64)) % ((288230376151711744 : Int64) - (1 : Int64)))) (vs &&& (31 : Int32)))), .second, .val (.long ((-1 : Int64) - ((vi &&& (2147483647 : Int32)).toInt64))), .second, .unset, .unset, .unset, .unset, .unset, .unset] [])) rfl (hb hby at_45) ?_
    show Steps p.tables e below (T1.setTop (mkF m 48 #[.val (.long vu), .second, .val (.int vs), .val (.int vi), .val (.int vj), .val (.long (288230376151711744 : Int64)), .second, .val (.long ((1 : Int64) + ((vu &&& (9223372036854775807 : Int64)) % ((288230376151711744 : Int64) - (1 : Int64))))), .second, .val (.int (vs &&& (31 : Int32))), .val (.long (own_pack ((1 : Int64) + ((vu &&& (9223372036854775807 : Int64)) % ((288230376151711744 : Int64) - (1 : Int64)))) (vs &&& (31 : Int32)))), .second, .val (.long ((-1 : Int64) - ((vi &&& (2147483647 : Int32)).toInt64))), .second, .unset, .unset, .unset, .unset, .unset, .unset] [(.long (-9223372036854775808 : Int64))])) _
    refine XS.iload X1.here hx rfl (hb hby at_48) rfl ?_
    show Steps p.tables e below (T1.setTop (mkF m 50 #[.val (.long vu), .second, .val (.int vs), .val (.int vi), .val (.int vj), .val (.long (288230376151711744 : Int64)), .second, .val (.long ((1 : Int64) + ((vu &&& (9223372036854775807 : Int64)) % ((288230376151711744 : Int64) - (1 : Int64))))), .second, .val (.int (vs &&& (31 : Int32))), .val (.long (own_pack ((1 : Int64) + ((vu &&& (9223372036854775807 : Int64)) % ((288230376151711744 : Int64) - (1 : Int64)))) (vs &&& (31 : Int32)))), .second, .val (.long ((-1 : Int64) - ((vi &&& (2147483647 : Int32)).toInt64))), .second, .unset, .unset, .unset, .unset, .unset, .unset] [(.int vj), (.long (-9223372036854775808 : Int64))])) _
    refine X1.ldcI hx hown (mvT hZ (hw _ (List.mem_of_getElem? (i := 7) rfl))) (g := (mkF m 50 #[.val (.long vu), .second, .val (.int vs), .val (.int vi), .val (.int vj), .val (.long (288230376151711744 : Int64)), .second, .val (.long ((1 : Int64) + ((vu &&& (9223372036854775807 : Int64)) % ((288230376151711744 : Int64) - (1 : Int64))))), .second, .val (.int (vs &&& (31 : Int32))), .val (.long (own_pack ((1 : Int64) + ((vu &&& (9223372036854775807 : Int64)) % ((288230376151711744 : Int64) - (1 : Int64)))) (vs &&& (31 : Int32)))), .second, .val (.long ((-1 : Int64) - ((vi &&& (2147483647 : Int32)).toInt64))), .second, .unset, .unset, .unset, .unset, .unset, .unset] [(.int vj), (.long (-9223372036854775808 : Int64))])) rfl (hb hby at_50) ?_
    show Steps p.tables e below (T1.setTop (mkF m 52 #[.val (.long vu), .second, .val (.int vs), .val (.int vi), .val (.int vj), .val (.long (288230376151711744 : Int64)), .second, .val (.long ((1 : Int64) + ((vu &&& (9223372036854775807 : Int64)) % ((288230376151711744 : Int64) - (1 : Int64))))), .second, .val (.int (vs &&& (31 : Int32))), .val (.long (own_pack ((1 : Int64) + ((vu &&& (9223372036854775807 : Int64)) % ((288230376151711744 : Int64) - (1 : Int64)))) (vs &&& (31 : Int32)))), .second, .val (.long ((-1 : Int64) - ((vi &&& (2147483647 : Int32)).toInt64))), .second, .unset, .unset, .unset, .unset, .unset, .unset] [(.int (2147483647 : Int32)), (.int vj), (.long (-9223372036854775808 : Int64))])) _
    refine XS.iand X1.here hx rfl (hb hby at_52) rfl ?_
    show Steps p.tables e below (T1.setTop (mkF m 53 #[.val (.long vu), .second, .val (.int vs), .val (.int vi), .val (.int vj), .val (.long (288230376151711744 : Int64)), .second, .val (.long ((1 : Int64) + ((vu &&& (9223372036854775807 : Int64)) % ((288230376151711744 : Int64) - (1 : Int64))))), .second, .val (.int (vs &&& (31 : Int32))), .val (.long (own_pack ((1 : Int64) + ((vu &&& (9223372036854775807 : Int64)) % ((288230376151711744 : Int64) - (1 : Int64)))) (vs &&& (31 : Int32)))), .second, .val (.long ((-1 : Int64) - ((vi &&& (2147483647 : Int32)).toInt64))), .second, .unset, .unset, .unset, .unset, .unset, .unset] [(.int (vj &&& (2147483647 : Int32))), (.long (-9223372036854775808 : Int64))])) _
    refine XS.i2l X1.here hx rfl (hb hby at_53) rfl ?_
    show Steps p.tables e below (T1.setTop (mkF m 54 #[.val (.long vu), .second, .val (.int vs), .val (.int vi), .val (.int vj), .val (.long (288230376151711744 : Int64)), .second, .val (.long ((1 : Int64) + ((vu &&& (9223372036854775807 : Int64)) % ((288230376151711744 : Int64) - (1 : Int64))))), .second, .val (.int (vs &&& (31 : Int32))), .val (.long (own_pack ((1 : Int64) + ((vu &&& (9223372036854775807 : Int64)) % ((288230376151711744 : Int64) - (1 : Int64)))) (vs &&& (31 : Int32)))), .second, .val (.long ((-1 : Int64) - ((vi &&& (2147483647 : Int32)).toInt64))), .second, .unset, .unset, .unset, .unset, .unset, .unset] [(.long ((vj &&& (2147483647 : Int32)).toInt64)), (.long (-9223372036854775808 : Int64))])) _
    refine XS.ladd X1.here hx rfl (hb hby at_54) rfl ?_
    show Steps p.tables e below (T1.setTop (mkF m 55 #[.val (.long vu), .second, .val (.int vs), .val (.int vi), .val (.int vj), .val (.long (288230376151711744 : Int64)), .second, .val (.long ((1 : Int64) + ((vu &&& (9223372036854775807 : Int64)) % ((288230376151711744 : Int64) - (1 : Int64))))), .second, .val (.int (vs &&& (31 : Int32))), .val (.long (own_pack ((1 : Int64) + ((vu &&& (9223372036854775807 : Int64)) % ((288230376151711744 : Int64) - (1 : Int64)))) (vs &&& (31 : Int32)))), .second, .val (.long ((-1 : Int64) - ((vi &&& (2147483647 : Int32)).toInt64))), .second, .unset, .unset, .unset, .unset, .unset, .unset] [(.long ((-9223372036854775808 : Int64) + ((vj &&& (2147483647 : Int32)).toInt64)))])) _
    refine XS.lstore X1.here hx rfl (hb hby at_55) rfl (l' := #[.val (.long vu), .second, .val (.int vs), .val (.int vi), .val (.int vj), .val (.long (288230376151711744 : Int64)), .second, .val (.long ((1 : Int64) + ((vu &&& (9223372036854775807 : Int64)) % ((288230376151711744 : Int64) - (1 : Int64))))), .second, .val (.int (vs &&& (31 : Int32))), .val (.long (own_pack ((1 : Int64) + ((vu &&& (9223372036854775807 : Int64)) % ((288230376151711744 : Int64) - (1 : Int64)))) (vs &&& (31 : Int32)))), .second, .val (.long ((-1 : Int64) - ((vi &&& (2147483647 : Int32)).toInt64))), .second, .val (.long ((-9223372036854775808 : Int64) + ((vj &&& (2147483647 : Int32)).toInt64))), .second, .unset, .unset, .unset, .unset]) rfl ?_
    show Steps p.tables e below (T1.setTop (mkF m 57 #[.val (.long vu), .second, .val (.int vs), .val (.int vi), .val (.int vj), .val (.long (288230376151711744 : Int64)), .second, .val (.long ((1 : Int64) + ((vu &&& (9223372036854775807 : Int64)) % ((288230376151711744 : Int64) - (1 : Int64))))), .second, .val (.int (vs &&& (31 : Int32))), .val (.long (own_pack ((1 : Int64) + ((vu &&& (9223372036854775807 : Int64)) % ((288230376151711744 : Int64) - (1 : Int64)))) (vs &&& (31 : Int32)))), .second, .val (.long ((-1 : Int64) - ((vi &&& (2147483647 : Int32)).toInt64))), .second, .val (.long ((-9223372036854775808 : Int64) + ((vj &&& (2147483647 : Int32)).toInt64))), .second, .unset, .unset, .unset, .unset] [])) _
    refine XS.lload X1.here hx rfl (hb hby at_57) rfl ?_
    show Steps p.tables e below (T1.setTop (mkF m 59 #[.val (.long vu), .second, .val (.int vs), .val (.int vi), .val (.int vj), .val (.long (288230376151711744 : Int64)), .second, .val (.long ((1 : Int64) + ((vu &&& (9223372036854775807 : Int64)) % ((288230376151711744 : Int64) - (1 : Int64))))), .second, .val (.int (vs &&& (31 : Int32))), .val (.long (own_pack ((1 : Int64) + ((vu &&& (9223372036854775807 : Int64)) % ((288230376151711744 : Int64) - (1 : Int64)))) (vs &&& (31 : Int32)))), .second, .val (.long ((-1 : Int64) - ((vi &&& (2147483647 : Int32)).toInt64))), .second, .val (.long ((-9223372036854775808 : Int64) + ((vj &&& (2147483647 : Int32)).toInt64))), .second, .unset, .unset, .unset, .unset] [(.long (own_pack ((1 : Int64) + ((vu &&& (9223372036854775807 : Int64)) % ((288230376151711744 : Int64) - (1 : Int64)))) (vs &&& (31 : Int32))))])) _
    refine st2 _ ?_
    show Steps p.tables e below (T2.setTop (mkF m 62 #[.val (.long vu), .second, .val (.int vs), .val (.int vi), .val (.int vj), .val (.long (288230376151711744 : Int64)), .second, .val (.long ((1 : Int64) + ((vu &&& (9223372036854775807 : Int64)) % ((288230376151711744 : Int64) - (1 : Int64))))), .second, .val (.int (vs &&& (31 : Int32))), .val (.long (own_pack ((1 : Int64) + ((vu &&& (9223372036854775807 : Int64)) % ((288230376151711744 : Int64) - (1 : Int64)))) (vs &&& (31 : Int32)))), .second, .val (.long ((-1 : Int64) - ((vi &&& (2147483647 : Int32)).toInt64))), .second, .val (.long ((-9223372036854775808 : Int64) + ((vj &&& (2147483647 : Int32)).toInt64))), .second, .unset, .unset, .unset, .unset] [(.int (own_is (own_pack ((1 : Int64) + ((vu &&& (9223372036854775807 : Int64)) % ((288230376151711744 : Int64) - (1 : Int64)))) (vs &&& (31 : Int32)))))])) _
    refine XS.istore X2.here hx rfl (hb hby at_62) rfl (l' := #[.val (.long vu), .second, .val (.int vs), .val (.int vi), .val (.int vj), .val (.long (288230376151711744 : Int64)), .second, .val (.long ((1 : Int64) + ((vu &&& (9223372036854775807 : Int64)) % ((288230376151711744 : Int64) - (1 : Int64))))), .second, .val (.int (vs &&& (31 : Int32))), .val (.long (own_pack ((1 : Int64) + ((vu &&& (9223372036854775807 : Int64)) % ((288230376151711744 : Int64) - (1 : Int64)))) (vs &&& (31 : Int32)))), .second, .val (.long ((-1 : Int64) - ((vi &&& (2147483647 : Int32)).toInt64))), .second, .val (.long ((-9223372036854775808 : Int64) + ((vj &&& (2147483647 : Int32)).toInt64))), .second, .val (.int (own_is (own_pack ((1 : Int64) + ((vu &&& (9223372036854775807 : Int64)) % ((288230376151711744 : Int64) - (1 : Int64)))) (vs &&& (31 : Int32))))), .unset, .unset, .unset]) rfl ?_
    show Steps p.tables e below (T2.setTop (mkF m 64 #[.val (.long vu), .second, .val (.int vs), .val (.int vi), .val (.int vj), .val (.long (288230376151711744 : Int64)), .second, .val (.long ((1 : Int64) + ((vu &&& (9223372036854775807 : Int64)) % ((288230376151711744 : Int64) - (1 : Int64))))), .second, .val (.int (vs &&& (31 : Int32))), .val (.long (own_pack ((1 : Int64) + ((vu &&& (9223372036854775807 : Int64)) % ((288230376151711744 : Int64) - (1 : Int64)))) (vs &&& (31 : Int32)))), .second, .val (.long ((-1 : Int64) - ((vi &&& (2147483647 : Int32)).toInt64))), .second, .val (.long ((-9223372036854775808 : Int64) + ((vj &&& (2147483647 : Int32)).toInt64))), .second, .val (.int (own_is (own_pack ((1 : Int64) + ((vu &&& (9223372036854775807 : Int64)) % ((288230376151711744 : Int64) - (1 : Int64)))) (vs &&& (31 : Int32))))), .unset, .unset, .unset] [])) _
    refine XS.lload X2.here hx rfl (hb hby at_64) rfl ?_
    show Steps p.tables e below (T2.setTop (mkF m 66 #[.val (.long vu), .second, .val (.int vs), .val (.int vi), .val (.int vj), .val (.long (288230376151711744 : Int64)), .second, .val (.long ((1 : Int64) + ((vu &&& (9223372036854775807 : Int64)) % ((288230376151711744 : Int64) - (1 : Int64))))), .second, .val (.int (vs &&& (31 : Int32))), .val (.long (own_pack ((1 : Int64) + ((vu &&& (9223372036854775807 : Int64)) % ((288230376151711744 : Int64) - (1 : Int64)))) (vs &&& (31 : Int32)))), .second, .val (.long ((-1 : Int64) - ((vi &&& (2147483647 : Int32)).toInt64))), .second, .val (.long ((-9223372036854775808 : Int64) + ((vj &&& (2147483647 : Int32)).toInt64))), .second, .val (.int (own_is (own_pack ((1 : Int64) + ((vu &&& (9223372036854775807 : Int64)) % ((288230376151711744 : Int64) - (1 : Int64)))) (vs &&& (31 : Int32))))), .unset, .unset, .unset] [(.long ((-1 : Int64) - ((vi &&& (2147483647 : Int32)).toInt64)))])) _
    refine st3 _ ?_
    show Steps p.tables e below (T3.setTop (mkF m 69 #[.val (.long vu), .second, .val (.int vs), .val (.int vi), .val (.int vj), .val (.long (288230376151711744 : Int64)), .second, .val (.long ((1 : Int64) + ((vu &&& (9223372036854775807 : Int64)) % ((288230376151711744 : Int64) - (1 : Int64))))), .second, .val (.int (vs &&& (31 : Int32))), .val (.long (own_pack ((1 : Int64) + ((vu &&& (9223372036854775807 : Int64)) % ((288230376151711744 : Int64) - (1 : Int64)))) (vs &&& (31 : Int32)))), .second, .val (.long ((-1 : Int64) - ((vi &&& (2147483647 : Int32)).toInt64))), .second, .val (.long ((-9223372036854775808 : Int64) + ((vj &&& (2147483647 : Int32)).toInt64))), .second, .val (.int (own_is (own_pack ((1 : Int64) + ((vu &&& (9223372036854775807 : Int64)) % ((288230376151711744 : Int64) - (1 : Int64)))) (vs &&& (31 : Int32))))), .unset, .unset, .unset] [(.int (own_is ((-1 : Int64) - ((vi &&& (2147483647 : Int32)).toInt64))))])) _
    refine XS.istore X3.here hx rfl (hb hby at_69) rfl (l' := #[.val (.long vu), .second, .val (.int vs), .val (.int vi), .val (.int vj), .val (.long (288230376151711744 : Int64)), .second, .val (.long ((1 : Int64) + ((vu &&& (9223372036854775807 : Int64)) % ((288230376151711744 : Int64) - (1 : Int64))))), .second, .val (.int (vs &&& (31 : Int32))), .val (.long (own_pack ((1 : Int64) + ((vu &&& (9223372036854775807 : Int64)) % ((288230376151711744 : Int64) - (1 : Int64)))) (vs &&& (31 : Int32)))), .second, .val (.long ((-1 : Int64) - ((vi &&& (2147483647 : Int32)).toInt64))), .second, .val (.long ((-9223372036854775808 : Int64) + ((vj &&& (2147483647 : Int32)).toInt64))), .second, .val (.int (own_is (own_pack ((1 : Int64) + ((vu &&& (9223372036854775807 : Int64)) % ((288230376151711744 : Int64) - (1 : Int64)))) (vs &&& (31 : Int32))))), .val (.int (own_is ((-1 : Int64) - ((vi &&& (2147483647 : Int32)).toInt64)))), .unset, .unset]) rfl ?_
    show Steps p.tables e below (T3.setTop (mkF m 71 #[.val (.long vu), .second, .val (.int vs), .val (.int vi), .val (.int vj), .val (.long (288230376151711744 : Int64)), .second, .val (.long ((1 : Int64) + ((vu &&& (9223372036854775807 : Int64)) % ((288230376151711744 : Int64) - (1 : Int64))))), .second, .val (.int (vs &&& (31 : Int32))), .val (.long (own_pack ((1 : Int64) + ((vu &&& (9223372036854775807 : Int64)) % ((288230376151711744 : Int64) - (1 : Int64)))) (vs &&& (31 : Int32)))), .second, .val (.long ((-1 : Int64) - ((vi &&& (2147483647 : Int32)).toInt64))), .second, .val (.long ((-9223372036854775808 : Int64) + ((vj &&& (2147483647 : Int32)).toInt64))), .second, .val (.int (own_is (own_pack ((1 : Int64) + ((vu &&& (9223372036854775807 : Int64)) % ((288230376151711744 : Int64) - (1 : Int64)))) (vs &&& (31 : Int32))))), .val (.int (own_is ((-1 : Int64) - ((vi &&& (2147483647 : Int32)).toInt64)))), .unset, .unset] [])) _
    refine XS.lload X3.here hx rfl (hb hby at_71) rfl ?_
    show Steps p.tables e below (T3.setTop (mkF m 73 #[.val (.long vu), .second, .val (.int vs), .val (.int vi), .val (.int vj), .val (.long (288230376151711744 : Int64)), .second, .val (.long ((1 : Int64) + ((vu &&& (9223372036854775807 : Int64)) % ((288230376151711744 : Int64) - (1 : Int64))))), .second, .val (.int (vs &&& (31 : Int32))), .val (.long (own_pack ((1 : Int64) + ((vu &&& (9223372036854775807 : Int64)) % ((288230376151711744 : Int64) - (1 : Int64)))) (vs &&& (31 : Int32)))), .second, .val (.long ((-1 : Int64) - ((vi &&& (2147483647 : Int32)).toInt64))), .second, .val (.long ((-9223372036854775808 : Int64) + ((vj &&& (2147483647 : Int32)).toInt64))), .second, .val (.int (own_is (own_pack ((1 : Int64) + ((vu &&& (9223372036854775807 : Int64)) % ((288230376151711744 : Int64) - (1 : Int64)))) (vs &&& (31 : Int32))))), .val (.int (own_is ((-1 : Int64) - ((vi &&& (2147483647 : Int32)).toInt64)))), .unset, .unset] [(.long ((-9223372036854775808 : Int64) + ((vj &&& (2147483647 : Int32)).toInt64)))])) _
    refine st4 _ ?_
    show Steps p.tables e below (T4.setTop (mkF m 76 #[.val (.long vu), .second, .val (.int vs), .val (.int vi), .val (.int vj), .val (.long (288230376151711744 : Int64)), .second, .val (.long ((1 : Int64) + ((vu &&& (9223372036854775807 : Int64)) % ((288230376151711744 : Int64) - (1 : Int64))))), .second, .val (.int (vs &&& (31 : Int32))), .val (.long (own_pack ((1 : Int64) + ((vu &&& (9223372036854775807 : Int64)) % ((288230376151711744 : Int64) - (1 : Int64)))) (vs &&& (31 : Int32)))), .second, .val (.long ((-1 : Int64) - ((vi &&& (2147483647 : Int32)).toInt64))), .second, .val (.long ((-9223372036854775808 : Int64) + ((vj &&& (2147483647 : Int32)).toInt64))), .second, .val (.int (own_is (own_pack ((1 : Int64) + ((vu &&& (9223372036854775807 : Int64)) % ((288230376151711744 : Int64) - (1 : Int64)))) (vs &&& (31 : Int32))))), .val (.int (own_is ((-1 : Int64) - ((vi &&& (2147483647 : Int32)).toInt64)))), .unset, .unset] [(.int (own_is ((-9223372036854775808 : Int64) + ((vj &&& (2147483647 : Int32)).toInt64))))])) _
    refine XS.istore X4.here hx rfl (hb hby at_76) rfl (l' := #[.val (.long vu), .second, .val (.int vs), .val (.int vi), .val (.int vj), .val (.long (288230376151711744 : Int64)), .second, .val (.long ((1 : Int64) + ((vu &&& (9223372036854775807 : Int64)) % ((288230376151711744 : Int64) - (1 : Int64))))), .second, .val (.int (vs &&& (31 : Int32))), .val (.long (own_pack ((1 : Int64) + ((vu &&& (9223372036854775807 : Int64)) % ((288230376151711744 : Int64) - (1 : Int64)))) (vs &&& (31 : Int32)))), .second, .val (.long ((-1 : Int64) - ((vi &&& (2147483647 : Int32)).toInt64))), .second, .val (.long ((-9223372036854775808 : Int64) + ((vj &&& (2147483647 : Int32)).toInt64))), .second, .val (.int (own_is (own_pack ((1 : Int64) + ((vu &&& (9223372036854775807 : Int64)) % ((288230376151711744 : Int64) - (1 : Int64)))) (vs &&& (31 : Int32))))), .val (.int (own_is ((-1 : Int64) - ((vi &&& (2147483647 : Int32)).toInt64)))), .val (.int (own_is ((-9223372036854775808 : Int64) + ((vj &&& (2147483647 : Int32)).toInt64)))), .unset]) rfl ?_
    show Steps p.tables e below (T4.setTop (mkF m 78 #[.val (.long vu), .second, .val (.int vs), .val (.int vi), .val (.int vj), .val (.long (288230376151711744 : Int64)), .second, .val (.long ((1 : Int64) + ((vu &&& (9223372036854775807 : Int64)) % ((288230376151711744 : Int64) - (1 : Int64))))), .second, .val (.int (vs &&& (31 : Int32))), .val (.long (own_pack ((1 : Int64) + ((vu &&& (9223372036854775807 : Int64)) % ((288230376151711744 : Int64) - (1 : Int64)))) (vs &&& (31 : Int32)))), .second, .val (.long ((-1 : Int64) - ((vi &&& (2147483647 : Int32)).toInt64))), .second, .val (.long ((-9223372036854775808 : Int64) + ((vj &&& (2147483647 : Int32)).toInt64))), .second, .val (.int (own_is (own_pack ((1 : Int64) + ((vu &&& (9223372036854775807 : Int64)) % ((288230376151711744 : Int64) - (1 : Int64)))) (vs &&& (31 : Int32))))), .val (.int (own_is ((-1 : Int64) - ((vi &&& (2147483647 : Int32)).toInt64)))), .val (.int (own_is ((-9223372036854775808 : Int64) + ((vj &&& (2147483647 : Int32)).toInt64)))), .unset] [])) _
    refine XS.lconst X4.here hx rfl (hb hby at_78) ?_
    show Steps p.tables e below (T4.setTop (mkF m 79 #[.val (.long vu), .second, .val (.int vs), .val (.int vi), .val (.int vj), .val (.long (288230376151711744 : Int64)), .second, .val (.long ((1 : Int64) + ((vu &&& (9223372036854775807 : Int64)) % ((288230376151711744 : Int64) - (1 : Int64))))), .second, .val (.int (vs &&& (31 : Int32))), .val (.long (own_pack ((1 : Int64) + ((vu &&& (9223372036854775807 : Int64)) % ((288230376151711744 : Int64) - (1 : Int64)))) (vs &&& (31 : Int32)))), .second, .val (.long ((-1 : Int64) - ((vi &&& (2147483647 : Int32)).toInt64))), .second, .val (.long ((-9223372036854775808 : Int64) + ((vj &&& (2147483647 : Int32)).toInt64))), .second, .val (.int (own_is (own_pack ((1 : Int64) + ((vu &&& (9223372036854775807 : Int64)) % ((288230376151711744 : Int64) - (1 : Int64)))) (vs &&& (31 : Int32))))), .val (.int (own_is ((-1 : Int64) - ((vi &&& (2147483647 : Int32)).toInt64)))), .val (.int (own_is ((-9223372036854775808 : Int64) + ((vj &&& (2147483647 : Int32)).toInt64)))), .unset] [(.long (0 : Int64))])) _
    refine st5 _ ?_
    show Steps p.tables e below (T5.setTop (mkF m 82 #[.val (.long vu), .second, .val (.int vs), .val (.int vi), .val (.int vj), .val (.long (288230376151711744 : Int64)), .second, .val (.long ((1 : Int64) + ((vu &&& (9223372036854775807 : Int64)) % ((288230376151711744 : Int64) - (1 : Int64))))), .second, .val (.int (vs &&& (31 : Int32))), .val (.long (own_pack ((1 : Int64) + ((vu &&& (9223372036854775807 : Int64)) % ((288230376151711744 : Int64) - (1 : Int64)))) (vs &&& (31 : Int32)))), .second, .val (.long ((-1 : Int64) - ((vi &&& (2147483647 : Int32)).toInt64))), .second, .val (.long ((-9223372036854775808 : Int64) + ((vj &&& (2147483647 : Int32)).toInt64))), .second, .val (.int (own_is (own_pack ((1 : Int64) + ((vu &&& (9223372036854775807 : Int64)) % ((288230376151711744 : Int64) - (1 : Int64)))) (vs &&& (31 : Int32))))), .val (.int (own_is ((-1 : Int64) - ((vi &&& (2147483647 : Int32)).toInt64)))), .val (.int (own_is ((-9223372036854775808 : Int64) + ((vj &&& (2147483647 : Int32)).toInt64)))), .unset] [(.int (own_is (0 : Int64)))])) _
    refine XS.istore X5.here hx rfl (hb hby at_82) rfl (l' := #[.val (.long vu), .second, .val (.int vs), .val (.int vi), .val (.int vj), .val (.long (288230376151711744 : Int64)), .second, .val (.long ((1 : Int64) + ((vu &&& (9223372036854775807 : Int64)) % ((288230376151711744 : Int64) - (1 : Int64))))), .second, .val (.int (vs &&& (31 : Int32))), .val (.long (own_pack ((1 : Int64) + ((vu &&& (9223372036854775807 : Int64)) % ((288230376151711744 : Int64) - (1 : Int64)))) (vs &&& (31 : Int32)))), .second, .val (.long ((-1 : Int64) - ((vi &&& (2147483647 : Int32)).toInt64))), .second, .val (.long ((-9223372036854775808 : Int64) + ((vj &&& (2147483647 : Int32)).toInt64))), .second, .val (.int (own_is (own_pack ((1 : Int64) + ((vu &&& (9223372036854775807 : Int64)) % ((288230376151711744 : Int64) - (1 : Int64)))) (vs &&& (31 : Int32))))), .val (.int (own_is ((-1 : Int64) - ((vi &&& (2147483647 : Int32)).toInt64)))), .val (.int (own_is ((-9223372036854775808 : Int64) + ((vj &&& (2147483647 : Int32)).toInt64)))), .val (.int (own_is (0 : Int64)))]) rfl ?_
    show Steps p.tables e below (T5.setTop (mkF m 84 #[.val (.long vu), .second, .val (.int vs), .val (.int vi), .val (.int vj), .val (.long (288230376151711744 : Int64)), .second, .val (.long ((1 : Int64) + ((vu &&& (9223372036854775807 : Int64)) % ((288230376151711744 : Int64) - (1 : Int64))))), .second, .val (.int (vs &&& (31 : Int32))), .val (.long (own_pack ((1 : Int64) + ((vu &&& (9223372036854775807 : Int64)) % ((288230376151711744 : Int64) - (1 : Int64)))) (vs &&& (31 : Int32)))), .second, .val (.long ((-1 : Int64) - ((vi &&& (2147483647 : Int32)).toInt64))), .second, .val (.long ((-9223372036854775808 : Int64) + ((vj &&& (2147483647 : Int32)).toInt64))), .second, .val (.int (own_is (own_pack ((1 : Int64) + ((vu &&& (9223372036854775807 : Int64)) % ((288230376151711744 : Int64) - (1 : Int64)))) (vs &&& (31 : Int32))))), .val (.int (own_is ((-1 : Int64) - ((vi &&& (2147483647 : Int32)).toInt64)))), .val (.int (own_is ((-9223372036854775808 : Int64) + ((vj &&& (2147483647 : Int32)).toInt64)))), .val (.int (own_is (0 : Int64)))] [])) _
    refine XS.iload X5.here hx rfl (hb hby at_84) rfl ?_
    show Steps p.tables e below (T5.setTop (mkF m 86 #[.val (.long vu), .second, .val (.int vs), .val (.int vi), .val (.int vj), .val (.long (288230376151711744 : Int64)), .second, .val (.long ((1 : Int64) + ((vu &&& (9223372036854775807 : Int64)) % ((288230376151711744 : Int64) - (1 : Int64))))), .second, .val (.int (vs &&& (31 : Int32))), .val (.long (own_pack ((1 : Int64) + ((vu &&& (9223372036854775807 : Int64)) % ((288230376151711744 : Int64) - (1 : Int64)))) (vs &&& (31 : Int32)))), .second, .val (.long ((-1 : Int64) - ((vi &&& (2147483647 : Int32)).toInt64))), .second, .val (.long ((-9223372036854775808 : Int64) + ((vj &&& (2147483647 : Int32)).toInt64))), .second, .val (.int (own_is (own_pack ((1 : Int64) + ((vu &&& (9223372036854775807 : Int64)) % ((288230376151711744 : Int64) - (1 : Int64)))) (vs &&& (31 : Int32))))), .val (.int (own_is ((-1 : Int64) - ((vi &&& (2147483647 : Int32)).toInt64)))), .val (.int (own_is ((-9223372036854775808 : Int64) + ((vj &&& (2147483647 : Int32)).toInt64)))), .val (.int (own_is (0 : Int64)))] [(.int (own_is (own_pack ((1 : Int64) + ((vu &&& (9223372036854775807 : Int64)) % ((288230376151711744 : Int64) - (1 : Int64)))) (vs &&& (31 : Int32)))))])) _
    refine XS.ifNo X5.here hx rfl (hb hby at_86) rfl ((if0 _ _).trans (feq ((own_p1 vu vs) : ¬ ((own_is (own_pack ((1 : Int64) + ((vu &&& (9223372036854775807 : Int64)) % ((288230376151711744 : Int64) - (1 : Int64)))) (vs &&& (31 : Int32)))) = (0 : Int32)))).1) ?_
    show Steps p.tables e below (T5.setTop (mkF m 89 #[.val (.long vu), .second, .val (.int vs), .val (.int vi), .val (.int vj), .val (.long (288230376151711744 : Int64)), .second, .val (.long ((1 : Int64) + ((vu &&& (9223372036854775807 : Int64)) % ((288230376151711744 : Int64) - (1 : Int64))))), .second, .val (.int (vs &&& (31 : Int32))), .val (.long (own_pack ((1 : Int64) + ((vu &&& (9223372036854775807 : Int64)) % ((288230376151711744 : Int64) - (1 : Int64)))) (vs &&& (31 : Int32)))), .second, .val (.long ((-1 : Int64) - ((vi &&& (2147483647 : Int32)).toInt64))), .second, .val (.long ((-9223372036854775808 : Int64) + ((vj &&& (2147483647 : Int32)).toInt64))), .second, .val (.int (own_is (own_pack ((1 : Int64) + ((vu &&& (9223372036854775807 : Int64)) % ((288230376151711744 : Int64) - (1 : Int64)))) (vs &&& (31 : Int32))))), .val (.int (own_is ((-1 : Int64) - ((vi &&& (2147483647 : Int32)).toInt64)))), .val (.int (own_is ((-9223372036854775808 : Int64) + ((vj &&& (2147483647 : Int32)).toInt64)))), .val (.int (own_is (0 : Int64)))] [])) _
    refine XS.iload X5.here hx rfl (hb hby at_89) rfl ?_
    show Steps p.tables e below (T5.setTop (mkF m 91 #[.val (.long vu), .second, .val (.int vs), .val (.int vi), .val (.int vj), .val (.long (288230376151711744 : Int64)), .second, .val (.long ((1 : Int64) + ((vu &&& (9223372036854775807 : Int64)) % ((288230376151711744 : Int64) - (1 : Int64))))), .second, .val (.int (vs &&& (31 : Int32))), .val (.long (own_pack ((1 : Int64) + ((vu &&& (9223372036854775807 : Int64)) % ((288230376151711744 : Int64) - (1 : Int64)))) (vs &&& (31 : Int32)))), .second, .val (.long ((-1 : Int64) - ((vi &&& (2147483647 : Int32)).toInt64))), .second, .val (.long ((-9223372036854775808 : Int64) + ((vj &&& (2147483647 : Int32)).toInt64))), .second, .val (.int (own_is (own_pack ((1 : Int64) + ((vu &&& (9223372036854775807 : Int64)) % ((288230376151711744 : Int64) - (1 : Int64)))) (vs &&& (31 : Int32))))), .val (.int (own_is ((-1 : Int64) - ((vi &&& (2147483647 : Int32)).toInt64)))), .val (.int (own_is ((-9223372036854775808 : Int64) + ((vj &&& (2147483647 : Int32)).toInt64)))), .val (.int (own_is (0 : Int64)))] [(.int (own_is ((-1 : Int64) - ((vi &&& (2147483647 : Int32)).toInt64))))])) _
    refine XS.ifNo X5.here hx rfl (hb hby at_91) rfl ((if0 _ _).trans (teq ((own_p2 vi) : (own_is ((-1 : Int64) - ((vi &&& (2147483647 : Int32)).toInt64))) = (0 : Int32))).2) ?_
    show Steps p.tables e below (T5.setTop (mkF m 94 #[.val (.long vu), .second, .val (.int vs), .val (.int vi), .val (.int vj), .val (.long (288230376151711744 : Int64)), .second, .val (.long ((1 : Int64) + ((vu &&& (9223372036854775807 : Int64)) % ((288230376151711744 : Int64) - (1 : Int64))))), .second, .val (.int (vs &&& (31 : Int32))), .val (.long (own_pack ((1 : Int64) + ((vu &&& (9223372036854775807 : Int64)) % ((288230376151711744 : Int64) - (1 : Int64)))) (vs &&& (31 : Int32)))), .second, .val (.long ((-1 : Int64) - ((vi &&& (2147483647 : Int32)).toInt64))), .second, .val (.long ((-9223372036854775808 : Int64) + ((vj &&& (2147483647 : Int32)).toInt64))), .second, .val (.int (own_is (own_pack ((1 : Int64) + ((vu &&& (9223372036854775807 : Int64)) % ((288230376151711744 : Int64) - (1 : Int64)))) (vs &&& (31 : Int32))))), .val (.int (own_is ((-1 : Int64) - ((vi &&& (2147483647 : Int32)).toInt64)))), .val (.int (own_is ((-9223372036854775808 : Int64) + ((vj &&& (2147483647 : Int32)).toInt64)))), .val (.int (own_is (0 : Int64)))] [])) _
    refine XS.iload X5.here hx rfl (hb hby at_94) rfl ?_
    show Steps p.tables e below (T5.setTop (mkF m 96 #[.val (.long vu), .second, .val (.int vs), .val (.int vi), .val (.int vj), .val (.long (288230376151711744 : Int64)), .second, .val (.long ((1 : Int64) + ((vu &&& (9223372036854775807 : Int64)) % ((288230376151711744 : Int64) - (1 : Int64))))), .second, .val (.int (vs &&& (31 : Int32))), .val (.long (own_pack ((1 : Int64) + ((vu &&& (9223372036854775807 : Int64)) % ((288230376151711744 : Int64) - (1 : Int64)))) (vs &&& (31 : Int32)))), .second, .val (.long ((-1 : Int64) - ((vi &&& (2147483647 : Int32)).toInt64))), .second, .val (.long ((-9223372036854775808 : Int64) + ((vj &&& (2147483647 : Int32)).toInt64))), .second, .val (.int (own_is (own_pack ((1 : Int64) + ((vu &&& (9223372036854775807 : Int64)) % ((288230376151711744 : Int64) - (1 : Int64)))) (vs &&& (31 : Int32))))), .val (.int (own_is ((-1 : Int64) - ((vi &&& (2147483647 : Int32)).toInt64)))), .val (.int (own_is ((-9223372036854775808 : Int64) + ((vj &&& (2147483647 : Int32)).toInt64)))), .val (.int (own_is (0 : Int64)))] [(.int (own_is ((-9223372036854775808 : Int64) + ((vj &&& (2147483647 : Int32)).toInt64))))])) _
    refine XS.ifNo X5.here hx rfl (hb hby at_96) rfl ((if0 _ _).trans (teq ((own_p3 vj) : (own_is ((-9223372036854775808 : Int64) + ((vj &&& (2147483647 : Int32)).toInt64))) = (0 : Int32))).2) ?_
    show Steps p.tables e below (T5.setTop (mkF m 99 #[.val (.long vu), .second, .val (.int vs), .val (.int vi), .val (.int vj), .val (.long (288230376151711744 : Int64)), .second, .val (.long ((1 : Int64) + ((vu &&& (9223372036854775807 : Int64)) % ((288230376151711744 : Int64) - (1 : Int64))))), .second, .val (.int (vs &&& (31 : Int32))), .val (.long (own_pack ((1 : Int64) + ((vu &&& (9223372036854775807 : Int64)) % ((288230376151711744 : Int64) - (1 : Int64)))) (vs &&& (31 : Int32)))), .second, .val (.long ((-1 : Int64) - ((vi &&& (2147483647 : Int32)).toInt64))), .second, .val (.long ((-9223372036854775808 : Int64) + ((vj &&& (2147483647 : Int32)).toInt64))), .second, .val (.int (own_is (own_pack ((1 : Int64) + ((vu &&& (9223372036854775807 : Int64)) % ((288230376151711744 : Int64) - (1 : Int64)))) (vs &&& (31 : Int32))))), .val (.int (own_is ((-1 : Int64) - ((vi &&& (2147483647 : Int32)).toInt64)))), .val (.int (own_is ((-9223372036854775808 : Int64) + ((vj &&& (2147483647 : Int32)).toInt64)))), .val (.int (own_is (0 : Int64)))] [])) _
    refine XS.iload X5.here hx rfl (hb hby at_99) rfl ?_
    show Steps p.tables e below (T5.setTop (mkF m 101 #[.val (.long vu), .second, .val (.int vs), .val (.int vi), .val (.int vj), .val (.long (288230376151711744 : Int64)), .second, .val (.long ((1 : Int64) + ((vu &&& (9223372036854775807 : Int64)) % ((288230376151711744 : Int64) - (1 : Int64))))), .second, .val (.int (vs &&& (31 : Int32))), .val (.long (own_pack ((1 : Int64) + ((vu &&& (9223372036854775807 : Int64)) % ((288230376151711744 : Int64) - (1 : Int64)))) (vs &&& (31 : Int32)))), .second, .val (.long ((-1 : Int64) - ((vi &&& (2147483647 : Int32)).toInt64))), .second, .val (.long ((-9223372036854775808 : Int64) + ((vj &&& (2147483647 : Int32)).toInt64))), .second, .val (.int (own_is (own_pack ((1 : Int64) + ((vu &&& (9223372036854775807 : Int64)) % ((288230376151711744 : Int64) - (1 : Int64)))) (vs &&& (31 : Int32))))), .val (.int (own_is ((-1 : Int64) - ((vi &&& (2147483647 : Int32)).toInt64)))), .val (.int (own_is ((-9223372036854775808 : Int64) + ((vj &&& (2147483647 : Int32)).toInt64)))), .val (.int (own_is (0 : Int64)))] [(.int (own_is (0 : Int64)))])) _
    refine XS.ifNo X5.here hx rfl (hb hby at_101) rfl ((if0 _ _).trans (teq ((own_p4 ) : (own_is (0 : Int64)) = (0 : Int32))).2) ?_
    show Steps p.tables e below (T5.setTop (mkF m 104 #[.val (.long vu), .second, .val (.int vs), .val (.int vi), .val (.int vj), .val (.long (288230376151711744 : Int64)), .second, .val (.long ((1 : Int64) + ((vu &&& (9223372036854775807 : Int64)) % ((288230376151711744 : Int64) - (1 : Int64))))), .second, .val (.int (vs &&& (31 : Int32))), .val (.long (own_pack ((1 : Int64) + ((vu &&& (9223372036854775807 : Int64)) % ((288230376151711744 : Int64) - (1 : Int64)))) (vs &&& (31 : Int32)))), .second, .val (.long ((-1 : Int64) - ((vi &&& (2147483647 : Int32)).toInt64))), .second, .val (.long ((-9223372036854775808 : Int64) + ((vj &&& (2147483647 : Int32)).toInt64))), .second, .val (.int (own_is (own_pack ((1 : Int64) + ((vu &&& (9223372036854775807 : Int64)) % ((288230376151711744 : Int64) - (1 : Int64)))) (vs &&& (31 : Int32))))), .val (.int (own_is ((-1 : Int64) - ((vi &&& (2147483647 : Int32)).toInt64)))), .val (.int (own_is ((-9223372036854775808 : Int64) + ((vj &&& (2147483647 : Int32)).toInt64)))), .val (.int (own_is (0 : Int64)))] [])) _
    refine XS.iconst X5.here hx rfl (hb hby at_104) ?_
    show Steps p.tables e below (T5.setTop (mkF m 105 #[.val (.long vu), .second, .val (.int vs), .val (.int vi), .val (.int vj), .val (.long (288230376151711744 : Int64)), .second, .val (.long ((1 : Int64) + ((vu &&& (9223372036854775807 : Int64)) % ((288230376151711744 : Int64) - (1 : Int64))))), .second, .val (.int (vs &&& (31 : Int32))), .val (.long (own_pack ((1 : Int64) + ((vu &&& (9223372036854775807 : Int64)) % ((288230376151711744 : Int64) - (1 : Int64)))) (vs &&& (31 : Int32)))), .second, .val (.long ((-1 : Int64) - ((vi &&& (2147483647 : Int32)).toInt64))), .second, .val (.long ((-9223372036854775808 : Int64) + ((vj &&& (2147483647 : Int32)).toInt64))), .second, .val (.int (own_is (own_pack ((1 : Int64) + ((vu &&& (9223372036854775807 : Int64)) % ((288230376151711744 : Int64) - (1 : Int64)))) (vs &&& (31 : Int32))))), .val (.int (own_is ((-1 : Int64) - ((vi &&& (2147483647 : Int32)).toInt64)))), .val (.int (own_is ((-9223372036854775808 : Int64) + ((vj &&& (2147483647 : Int32)).toInt64)))), .val (.int (own_is (0 : Int64)))] [(.int (1 : Int32))])) _
    refine XS.goto X5.here hx rfl (pc0 := 105) (pc' := 109) rfl (hb hby at_105) (by decide) (by decide) ?_
    show Steps p.tables e below (T5.setTop (mkF m 109 #[.val (.long vu), .second, .val (.int vs), .val (.int vi), .val (.int vj), .val (.long (288230376151711744 : Int64)), .second, .val (.long ((1 : Int64) + ((vu &&& (9223372036854775807 : Int64)) % ((288230376151711744 : Int64) - (1 : Int64))))), .second, .val (.int (vs &&& (31 : Int32))), .val (.long (own_pack ((1 : Int64) + ((vu &&& (9223372036854775807 : Int64)) % ((288230376151711744 : Int64) - (1 : Int64)))) (vs &&& (31 : Int32)))), .second, .val (.long ((-1 : Int64) - ((vi &&& (2147483647 : Int32)).toInt64))), .second, .val (.long ((-9223372036854775808 : Int64) + ((vj &&& (2147483647 : Int32)).toInt64))), .second, .val (.int (own_is (own_pack ((1 : Int64) + ((vu &&& (9223372036854775807 : Int64)) % ((288230376151711744 : Int64) - (1 : Int64)))) (vs &&& (31 : Int32))))), .val (.int (own_is ((-1 : Int64) - ((vi &&& (2147483647 : Int32)).toInt64)))), .val (.int (own_is ((-9223372036854775808 : Int64) + ((vj &&& (2147483647 : Int32)).toInt64)))), .val (.int (own_is (0 : Int64)))] [(.int (1 : Int32))])) _
    exact retN X5 hx (t := .boolean) Bd.returns (by simp) (hb hby at_109) hr
  ·
    show Q0 Z vu vs vi vj h0 n0 _ T5.heap _
    rw [e5q]
    exact ⟨rfl, N5⟩
set_option maxRecDepth 65536 in
set_option maxHeartbeats 40000000 in
theorem comes_1 {Post : Tables → Env → Array Value → State → Outcome → State → Prop} (hpost : ∀ tb e args s v u, (limb_1_1.after args s (.returned v) u = true ∧ limb_1_2.after args s (.returned v) u = true ∧ True) → FrameEnd s (.returned v) u (Jvm.fieldLocs frame_1_writes args s ++ Jvm.arrayLocs frame_1_arrays args s ++ Jvm.staticLocs frame_1_statics s) 0 0 → Post tb e args s (.returned v) u) :
    ArmFor flags0 classFile x code maxLocals ret World_1 tables_1 room_1 Calls_1 rest_1 Pre_1 Post := by
  intro l hfl _ _ p e ha hc hk s m args below hf hA hF happ hP
  obtain ⟨hcalls, hrest, hpre⟩ := hP
  obtain ⟨-, -, -, hnamed, -, -, -, hat⟩ := (Spec.applies_iff hf).mp happ
  obtain ⟨hg, hn⟩ := and_e (Cond.before_iff.mp (show (Jvm.Cond.and given_1 narrow_1).before args s = true from hpre))
  obtain ⟨g1a, g1b⟩ := and_e hg
  obtain ⟨g2a, g2b⟩ := and_e g1b
  obtain ⟨g3a, g3b⟩ := and_e g2b
  obtain ⟨g4a, g4b⟩ := and_e g3b
  obtain ⟨w0, w1, w2, w3, rfl⟩ : ∃ w0 w1 w2 w3 : Value, args = #[w0, w1, w2, w3] := by
    have hs : args.size = 4 := by simpa [Cond.value, given_1] using g1a
    obtain ⟨L⟩ := args
    match L, hs with
    | [w0, w1, w2, w3], _ => exact ⟨w0, w1, w2, w3, rfl⟩
  have hw := fun d (hd : d ∈ tables_1) => atoms_spec (ws := Jvm.Cond.code x code maxLocals ret :: tables_1) hat d (List.mem_cons_of_mem _ hd)
  have hfit : Fit s := fun {y c} hc i hi => by
    obtain ⟨ha, rfl⟩ := Array.getElem?_eq_some_iff.mp hc
    have q := List.all_eq_true.mp ((Array.all_eq_true_iff_forall_mem.mp hF) _ (Array.getElem_mem ha)) i (List.mem_range.mpr hi)
    simpa [Array.getElem?_eq_getElem hi] using q
  obtain ⟨vu, ei0⟩ := isL_v g2a
  obtain rfl : w0 = (.long vu) := Option.some.inj ei0
  obtain ⟨vs, ei1⟩ := is_v g3a
  obtain rfl : w1 = (.int vs) := Option.some.inj ei1
  obtain ⟨vi, ei2⟩ := is_v g4a
  obtain rfl : w2 = (.int vi) := Option.some.inj ei2
  obtain ⟨vj, ei3⟩ := is_v g4b
  obtain rfl : w3 = (.int vj) := Option.some.inj ei3
  obtain ⟨n, o, h1, h2, h3, _, L, rfl, ⟨rfl, N⟩, hq⟩ := rm0 l s _ hw tables_1 vu vs vi vj  s.heap s.heap.size (Nat.le_refl _)  p e ha hc hk s m _ below hf ((Spec.applies_iff_loose hf).mp happ).1 ⟨rfl, State.Warmed39.refl s, rfl⟩ trivial
  refine ⟨n, _, h1, h2, h3, hpost _ _ _ _ _ _ ⟨Cond.after_iff.mpr rfl, Cond.after_iff.mpr (eq_i res_at (Term.int_eval (1)) rfl), trivial⟩ ⟨hq.1, hq.2.1, (hq.2.2.sift fun y hy => Or.inr (N y hy)).mono (by decide) (by decide)⟩⟩
theorem main_1_1 : Claimed_1_1 := comes_1 fun _ _ _ _ _ _ h hF => ⟨h.1, hF⟩
theorem main_1_2 : Claimed_1_2 := comes_1 fun _ _ _ _ _ _ h hF => ⟨h.2.1, hF⟩
end Jvm.Pilot.@@N@@
namespace Jvm.Pilot.@@N@@
open Jvm Jvm.ClassFile Sem Op Lib Jvm.Free Jvm.Stand Jvm.Pilot.@@N@@.Jvm.D
/-! MADE BY PROGRAM (witnessworld.py) out of the Statement's table words and the real class files: 8 classes; the members and pool entries that the words name. The judged class is class 1, her method 1. -/
namespace start1
open Jvm.ClassFile
def u (s : String) : CpInfo := .utf8 (stringToUtf16 s)
/-- a pool by its gaps: so many unusable entries, then the entry; so many at the end -/
def gap : Nat → List CpInfo → List CpInfo
  | 0, r => r
  | n + 1, r => .unusable :: gap n r
def poolList (es : List (Nat × CpInfo)) (last : Nat) : List CpInfo := es.foldr (fun e r => gap e.1 (e.2 :: r)) (gap last [])
def pool (es : List (Nat × CpInfo)) (last : Nat) : Array CpInfo := ⟨poolList es last⟩
def fileOf (pool : Array CpInfo) (this : Nat) (attrs : Array Attribute := #[]) (ms : Array MethodInfo := #[]) (fl : Nat := 33) (sup : Nat := 0) (ifs : Array Nat := #[]) (fds : Array FieldInfo := #[]) : ClassFile where
  minorVersion := 0
  majorVersion := 65
  constantPool := pool
  accessFlags := fl
  thisClass := this
  superClass := sup
  interfaces := ifs
  fields := fds
  methods := ms
  attributes := attrs
def plain (name : String) (sup : Option ClassId) : Class where
  name := name
  kind := .ordinary
  loader := none
  accessFlags := 33
  super := sup
  interfaces := #[]
  cf := none
  fields := #[]
  methods := #[]
  instanceTypes := #[]
  staticTypes := #[]
  resolved := #[]
  callSites := []
  init := .initialized
  statics := none
  mirror := none

def pool0 : Array CpInfo := pool [(5, u "<init>"), (0, u "()V"), (1, .class_ 10), (1, u "java/lang/Object")] 113

def k0m0 : Method := { name := "<init>", desc := "()V", sig := { parameters := [], returnType := none }, accessFlags := 1, code := none }
/-- java/lang/Object -/
def k0 : Class := { plain "java/lang/Object" none with
  accessFlags := 33
  interfaces := #[]
  cf := some (fileOf pool0 8 #[] #[{ accessFlags := 1, nameIndex := 5, descriptorIndex := 6, attributes := #[] }] 33 0 #[] #[])
  fields := #[]
  methods := #[k0m0]
  instanceTypes := #[]
  staticTypes := #[]
  resolved := Array.replicate 124 none
  statics := none }

def pool1 : Array CpInfo := pool [(2, .class_ 4), (1, u "java/lang/Object"), (0, u "<init>"), (0, u "()V"), (0, .long 288230376151711744), (3, .long 9223372036854775807), (1, .methodref 14 15), (0, .class_ 16), (0, .nameAndType 17 18), (0, u "com/example/paniere/paniere/CompactDecimal"), (0, u "pack"), (0, u "(JI)J"), (0, .long 18446744073709551615), (1, .integer 2147483647), (0, .long 9223372036854775808), (1, .methodref 25 26), (0, .class_ 27), (0, .nameAndType 28 29), (0, u "com/example/paniere/paniere/DecimalStore"), (0, u "isPacked"), (0, u "(J)Z"), (0, .class_ 31), (0, u "com/example/paniere/paniere/DecimalStoreIsPackedPinLaw"), (2, u "law"), (0, u "(JIII)Z")] 3

def k1m0 : Method := { name := "<init>", desc := "()V", sig := { parameters := [], returnType := none }, accessFlags := 2, code := none }
def k1c1 : Code := { maxStack := 8, maxLocals := 20, code := code, exceptionTable := #[], attributes := #[] }
def k1m1 : Method := { name := "law", desc := "(JIII)Z", sig := { parameters := [.long, .int, .int, .int], returnType := some .boolean }, accessFlags := 9, code := some k1c1 }
/-- com/example/paniere/paniere/DecimalStoreIsPackedPinLaw -/
def k1 : Class := { plain "com/example/paniere/paniere/DecimalStoreIsPackedPinLaw" (some 0) with
  accessFlags := 49
  interfaces := #[]
  cf := some (fileOf pool1 30 #[] #[{ accessFlags := 2, nameIndex := 5, descriptorIndex := 6, attributes := #[] }, { accessFlags := 9, nameIndex := 34, descriptorIndex := 35, attributes := #[] }] 49 2 #[] #[])
  fields := #[]
  methods := #[k1m0, k1m1]
  instanceTypes := #[]
  staticTypes := #[]
  resolved := Array.replicate 39 none
  statics := none }

def pool2 : Array CpInfo := pool [(1, .class_ 2), (0, u "com/example/paniere/paniere/CompactDecimal"), (1, .class_ 6), (1, u "java/lang/Object"), (0, u "<init>"), (0, u "()V"), (31, u "POWERS_OF_TEN"), (0, u "[D"), (7, u "RECIPROCAL_HIGHS"), (0, u "[J"), (2, u "RECIPROCAL_LOWS"), (16, u "RECIPROCAL_EXPONENTS"), (0, u "[I"), (111, u "NONE"), (0, u "J"), (3, u "SCALE_SHIFT"), (0, u "I"), (1, u "UNSCALED_BOUND"), (2, u "MAX_SCALE"), (1, u "EXACT_DOUBLE_BOUND"), (0, u "TWO_LONG_DIGITS"), (3, u "pack"), (0, u "(JI)J"), (8, .class_ 212), (0, u "com/example/paniere/paniere/CompactDecimal$Sum"), (0, .class_ 214), (0, u "com/example/paniere/paniere/CompactDecimal$Digits")] 3

def k2m0 : Method := { name := "<init>", desc := "()V", sig := { parameters := [], returnType := none }, accessFlags := 2, code := none }
def k2c1 : Code := { maxStack := 4, maxLocals := 3, code := prog_6_method_2_code, exceptionTable := #[], attributes := #[] }
def k2m1 : Method := { name := "pack", desc := "(JI)J", sig := { parameters := [.long, .int], returnType := some .long }, accessFlags := 8, code := some k2c1 }
/-- com/example/paniere/paniere/CompactDecimal -/
def k2 : Class := { plain "com/example/paniere/paniere/CompactDecimal" (some 0) with
  accessFlags := 48
  interfaces := #[]
  cf := some (fileOf pool2 1 #[.nestMembers #[211, 213]] #[{ accessFlags := 2, nameIndex := 7, descriptorIndex := 8, attributes := #[] }, { accessFlags := 8, nameIndex := 201, descriptorIndex := 202, attributes := #[] }] 48 4 #[] #[{ accessFlags := 24, nameIndex := 183, descriptorIndex := 184, attributes := #[] }, { accessFlags := 26, nameIndex := 188, descriptorIndex := 189, attributes := #[] }, { accessFlags := 26, nameIndex := 191, descriptorIndex := 184, attributes := #[] }, { accessFlags := 26, nameIndex := 194, descriptorIndex := 189, attributes := #[] }, { accessFlags := 26, nameIndex := 196, descriptorIndex := 184, attributes := #[] }, { accessFlags := 26, nameIndex := 40, descriptorIndex := 41, attributes := #[] }, { accessFlags := 24, nameIndex := 197, descriptorIndex := 189, attributes := #[] }, { accessFlags := 26, nameIndex := 49, descriptorIndex := 50, attributes := #[] }, { accessFlags := 26, nameIndex := 53, descriptorIndex := 50, attributes := #[] }, { accessFlags := 26, nameIndex := 70, descriptorIndex := 71, attributes := #[] }])
  fields := #[{ name := "NONE", type := .long, accessFlags := 24, slot := 0, constantValue := 0 }, { name := "SCALE_SHIFT", type := .int, accessFlags := 26, slot := 1, constantValue := 0 }, { name := "UNSCALED_BOUND", type := .long, accessFlags := 26, slot := 2, constantValue := 0 }, { name := "MAX_SCALE", type := .int, accessFlags := 26, slot := 3, constantValue := 0 }, { name := "EXACT_DOUBLE_BOUND", type := .long, accessFlags := 26, slot := 4, constantValue := 0 }, { name := "POWERS_OF_TEN", type := (.array .double), accessFlags := 26, slot := 5, constantValue := 0 }, { name := "TWO_LONG_DIGITS", type := .int, accessFlags := 24, slot := 6, constantValue := 0 }, { name := "RECIPROCAL_HIGHS", type := (.array .long), accessFlags := 26, slot := 7, constantValue := 0 }, { name := "RECIPROCAL_LOWS", type := (.array .long), accessFlags := 26, slot := 8, constantValue := 0 }, { name := "RECIPROCAL_EXPONENTS", type := (.array .int), accessFlags := 26, slot := 9, constantValue := 0 }]
  methods := #[k2m0, k2m1]
  instanceTypes := #[]
  staticTypes := #[.long, .int, .long, .int, .long, (.array .double), .int, (.array .long), (.array .long), (.array .int)]
  resolved := Array.replicate 218 none
  statics := none }

def pool3 : Array CpInfo := pool [(6, .class_ 8), (1, u "java/lang/Object"), (0, u "<init>"), (0, u "()V"), (1, .class_ 14), (1, u "com/example/paniere/paniere/DecimalStore"), (0, u "highs"), (0, u "[J"), (2, u "lows"), (2, u "twoLongScales"), (0, u "[B"), (2, u "bytes"), (2, u "ends"), (0, u "[I"), (2, u "wideScales"), (2, u "wideDoubles"), (0, u "[D"), (5, u "digits"), (0, u "Lcom/example/paniere/paniere/CompactDecimal$Digits;"), (41, u "wideCount"), (0, u "I"), (30, u "twoLongCount"), (14, u "isPacked"), (0, u "(J)Z"), (61, u "MAX_LENGTH"), (2, u "FIRST_WIDE"), (0, u "J")] 19

def k3m0 : Method := { name := "<init>", desc := "()V", sig := { parameters := [], returnType := none }, accessFlags := 0, code := none }
def k3c1 : Code := { maxStack := 4, maxLocals := 2, code := prog_10_method_4_code, exceptionTable := #[], attributes := #[] }
def k3m1 : Method := { name := "isPacked", desc := "(J)Z", sig := { parameters := [.long], returnType := some .boolean }, accessFlags := 8, code := some k3c1 }
/-- com/example/paniere/paniere/DecimalStore -/
def k3 : Class := { plain "com/example/paniere/paniere/DecimalStore" (some 0) with
  accessFlags := 48
  interfaces := #[]
  cf := some (fileOf pool3 12 #[] #[{ accessFlags := 0, nameIndex := 9, descriptorIndex := 10, attributes := #[] }, { accessFlags := 8, nameIndex := 133, descriptorIndex := 134, attributes := #[] }] 48 6 #[] #[{ accessFlags := 26, nameIndex := 196, descriptorIndex := 87, attributes := #[] }, { accessFlags := 26, nameIndex := 199, descriptorIndex := 200, attributes := #[] }, { accessFlags := 2, nameIndex := 15, descriptorIndex := 16, attributes := #[] }, { accessFlags := 2, nameIndex := 19, descriptorIndex := 16, attributes := #[] }, { accessFlags := 2, nameIndex := 22, descriptorIndex := 23, attributes := #[] }, { accessFlags := 2, nameIndex := 118, descriptorIndex := 87, attributes := #[] }, { accessFlags := 2, nameIndex := 26, descriptorIndex := 23, attributes := #[] }, { accessFlags := 2, nameIndex := 29, descriptorIndex := 30, attributes := #[] }, { accessFlags := 2, nameIndex := 33, descriptorIndex := 30, attributes := #[] }, { accessFlags := 2, nameIndex := 36, descriptorIndex := 37, attributes := #[] }, { accessFlags := 2, nameIndex := 86, descriptorIndex := 87, attributes := #[] }, { accessFlags := 18, nameIndex := 43, descriptorIndex := 44, attributes := #[] }])
  fields := #[{ name := "MAX_LENGTH", type := .int, accessFlags := 26, slot := 0, constantValue := 0 }, { name := "FIRST_WIDE", type := .long, accessFlags := 26, slot := 1, constantValue := 0 }, { name := "highs", type := (.array .long), accessFlags := 2, slot := 0, constantValue := 0 }, { name := "lows", type := (.array .long), accessFlags := 2, slot := 1, constantValue := 0 }, { name := "twoLongScales", type := (.array .byte), accessFlags := 2, slot := 2, constantValue := 0 }, { name := "twoLongCount", type := .int, accessFlags := 2, slot := 3, constantValue := 0 }, { name := "bytes", type := (.array .byte), accessFlags := 2, slot := 4, constantValue := 0 }, { name := "ends", type := (.array .int), accessFlags := 2, slot := 5, constantValue := 0 }, { name := "wideScales", type := (.array .int), accessFlags := 2, slot := 6, constantValue := 0 }, { name := "wideDoubles", type := (.array .double), accessFlags := 2, slot := 7, constantValue := 0 }, { name := "wideCount", type := .int, accessFlags := 2, slot := 8, constantValue := 0 }, { name := "digits", type := (.object "com/example/paniere/paniere/CompactDecimal$Digits"), accessFlags := 18, slot := 9, constantValue := 0 }]
  methods := #[k3m0, k3m1]
  instanceTypes := #[(.array .long), (.array .long), (.array .byte), .int, (.array .byte), (.array .int), (.array .int), (.array .double), .int, (.object "com/example/paniere/paniere/CompactDecimal$Digits")]
  staticTypes := #[.int, .long]
  resolved := Array.replicate 220 none
  statics := none }

def pool4 : Array CpInfo := pool [(1, u "java/lang/Cloneable"), (0, .class_ 1), (0, u "java/lang/Object"), (0, .class_ 3)] 3

/-- java/lang/Cloneable -/
def k4 : Class := { plain "java/lang/Cloneable" (some 0) with
  accessFlags := 1537
  interfaces := #[]
  cf := some (fileOf pool4 2 #[] #[] 1537 4 #[] #[])
  fields := #[]
  methods := #[]
  instanceTypes := #[]
  staticTypes := #[]
  resolved := Array.replicate 8 none
  statics := none }

def pool5 : Array CpInfo := pool [(1, u "java/io/Serializable"), (0, .class_ 1), (0, u "java/lang/Object"), (0, .class_ 3)] 3

/-- java/io/Serializable -/
def k5 : Class := { plain "java/io/Serializable" (some 0) with
  accessFlags := 1537
  interfaces := #[]
  cf := some (fileOf pool5 2 #[] #[] 1537 4 #[] #[])
  fields := #[]
  methods := #[]
  instanceTypes := #[]
  staticTypes := #[]
  resolved := Array.replicate 8 none
  statics := none }

/-- the primitive byte -/
def k6 : Class := { plain "byte" none with kind := .primitive 'B', accessFlags := 0x411 }
/-- [B -/
def k7 : Class := { plain "[B" (some 0) with kind := .array 6 .byte, interfaces := #[4, 5], accessFlags := 1041 }

def heap : Heap := #[]
def classes : Array Class := #[k0, k1, k2, k3, k4, k5, k6, k7]
def interned : List (Array UInt16 × Addr) := []
def slotsUsed : Nat := 0
def theMethod : MethodId := ⟨1, 1⟩
def args0 : Array Value := #[.long 5, .int 300, .int 7, .int 9]
def aboutOver (below : List Frame) : State where
  vm := { classes := classes, interned := interned.toArray }
  heap := heap
  slotsUsed := slotsUsed
  threads := #[{ frames := .invoking theMethod args0 :: below }]
def below0 : List Frame := [.native { method := ⟨0, 0⟩, args := #[] }]
def about1 : State := aboutOver below0
def p0 : Program := .bare "" "" ""
def e0 : Env := launch0.env 0 0 0
theorem w_frames : about1.frames = Frame.invoking theMethod args0 :: below0 := rfl
set_option maxRecDepth 65536 in
theorem w_args : argsFit about1.vm theMethod args0 = true := by decide +kernel
set_option maxRecDepth 65536 in
theorem w_heap : heapFits about1 = true := by decide +kernel
set_option maxRecDepth 65536 in
theorem w_runnable : about1.curStatus? = some .runnable := by decide +kernel
set_option maxRecDepth 65536 in
theorem w_alone : about1.alone = true := by decide +kernel
set_option maxRecDepth 65536 in
theorem w_named : about1.methodNamed? x = some theMethod := by decide +kernel
set_option maxRecDepth 65536 in
theorem w_hears : about1.hears theMethod below0 = true := by decide +kernel
set_option maxRecDepth 65536 in
theorem w_ripe : about1.ripe theMethod args0 below0 = true := by decide +kernel
theorem w_running : about1.status = .running := rfl
set_option maxRecDepth 65536 in
theorem w_room : about1.hasRoom e0.platform room_1 = true :=
  launch0.hasRoom_least _ room_1 (by decide +kernel) (by decide +kernel) (by decide +kernel) (by decide +kernel) (by decide +kernel) (by decide +kernel)
theorem allAtoms_all (ts : List Jvm.Cond) (a : Array Jvm.Value) (st : Jvm.State) : (allAtoms ts).before a st = ts.all (fun c => c.before a st) := by
  induction ts with
  | nil => rfl
  | cons c t ih =>
    show (Jvm.Cond.and c (allAtoms t)).before a st = _
    rw [Jvm.Cond.before_and, ih, List.all_cons]
def words1 : List Jvm.Cond := Jvm.Cond.code x code maxLocals ret :: tables_1
/-- a 'code' word, met by the world's own term for the bytes: nothing is compared byte by byte -/
theorem code_word {y : MethodName} {bytes : ByteArray} {mx : Nat} {rt : Option FieldType} {a : Array Value} {s : State} {m : MethodId} {meth : Method} {c : Code} (h1 : s.methodNamed? y = some m) (h2 : s.vm.method? m = some meth) (h3 : meth.code = some c) (h4 : c.code = bytes)
    (h5 : (c.maxLocals == mx && c.exceptionTable.isEmpty && decide (c.maxStack ≤ mostOperands) && decide (meth.sig.returnType = rt) && !meth.locks && decide (parseMethodDescriptor y.desc = some meth.sig)) = true) : (Jvm.Cond.code y bytes mx rt).before a s = true := by
  simp only [Bool.and_eq_true, beq_iff_eq, Bool.not_eq_true', decide_eq_true_eq] at h5
  obtain ⟨⟨⟨⟨⟨g1, g2⟩, g3⟩, g4⟩, g5⟩, g6⟩ := h5
  simp [Cond.before, Cond.holds, Cond.value, h1, h2, h3, h4, g1, g2, g3, g4, g5, g6]
def isCode : Jvm.Cond → Bool
  | .code _ _ _ _ => true
  | _ => false
theorem all_split {L : List Jvm.Cond} {P : Jvm.Cond → Bool} (h1 : L.all (fun c => isCode c || P c) = true) (h2 : ∀ c ∈ L.filter isCode, P c = true) : L.all P = true := by
  refine List.all_eq_true.mpr fun c hc => ?_
  have h := List.all_eq_true.mp h1 c hc
  rcases Bool.eq_false_or_eq_true (isCode c) with hi | hi
  · exact h2 c (List.mem_filter.mpr ⟨hc, hi⟩)
  · simpa [hi] using h
set_option maxRecDepth 65536 in
theorem w_c0 : (Jvm.Cond.code x code maxLocals ret).before args0 about1 = true := code_word (m := ⟨1, 1⟩) (meth := k1m1) (c := k1c1) (by decide +kernel) rfl rfl rfl (by decide +kernel)
set_option maxRecDepth 65536 in
theorem w_c1 : (Jvm.Cond.code ({ cls := "com/example/paniere/paniere/CompactDecimal", name := "pack", desc := "(JI)J" } : Jvm.MethodName) prog_6_method_2_code (3 : Nat) (Option.some Jvm.ClassFile.FieldType.long)).before args0 about1 = true := code_word (m := ⟨2, 1⟩) (meth := k2m1) (c := k2c1) (by decide +kernel) rfl rfl rfl (by decide +kernel)
set_option maxRecDepth 65536 in
theorem w_c2 : (Jvm.Cond.code ({ cls := "com/example/paniere/paniere/DecimalStore", name := "isPacked", desc := "(J)Z" } : Jvm.MethodName) prog_10_method_4_code (2 : Nat) (Option.some Jvm.ClassFile.FieldType.boolean)).before args0 about1 = true := code_word (m := ⟨3, 1⟩) (meth := k3m1) (c := k3c1) (by decide +kernel) rfl rfl rfl (by decide +kernel)
def codes1 : List Jvm.Cond := [Jvm.Cond.code x code maxLocals ret, Jvm.Cond.code ({ cls := "com/example/paniere/paniere/CompactDecimal", name := "pack", desc := "(JI)J" } : Jvm.MethodName) prog_6_method_2_code (3 : Nat) (Option.some Jvm.ClassFile.FieldType.long), Jvm.Cond.code ({ cls := "com/example/paniere/paniere/DecimalStore", name := "isPacked", desc := "(J)Z" } : Jvm.MethodName) prog_10_method_4_code (2 : Nat) (Option.some Jvm.ClassFile.FieldType.boolean)]
set_option maxRecDepth 65536 in
theorem codes_eq : words1.filter isCode = codes1 := rfl
theorem w_codes : ∀ c ∈ words1.filter isCode, c.before args0 about1 = true := by
  rw [codes_eq]
  intro c hc
  simp only [codes1, List.mem_cons, List.not_mem_nil, or_false] at hc
  rcases hc with rfl | rfl | rfl
  · exact w_c0
  · exact w_c1
  · exact w_c2
set_option maxRecDepth 65536 in
theorem w_t1 : words1.all (fun c => isCode c || c.before args0 about1) = true := by decide +kernel
theorem w_tables : (allAtoms (Jvm.Cond.code x code maxLocals ret :: tables_1)).before args0 about1 = true := by
  rw [allAtoms_all]
  show words1.all (fun c => c.before args0 about1) = true
  refine all_split ?_ w_codes
  rw [w_t1]
set_option maxRecDepth 65536 in
theorem w_case : (Jvm.Cond.and given_1 narrow_1).before args0 about1 = true := by decide +kernel
theorem w_applies : (headSpec (Jvm.Cond.code x code maxLocals ret :: tables_1) room_1).applies x e0.platform about1 = true :=
  (Spec.applies_iff w_frames).mpr ⟨w_running, w_runnable, w_alone, w_named, w_hears, w_ripe, w_room, w_tables⟩
theorem atStart : AtStart classFile x code maxLocals ret World_1 tables_1 room_1 Calls_1 rest_1 Pre_1 launch0 p0 e0 about1 theMethod args0 below0 :=
  ⟨lists_1, trivial, launch0.admits_env _ _ _, launch0.least_env, fairChoices_fair.cas, fairChoices_fair.clock, w_frames, w_args, w_heap, w_applies, trivial, trivial, w_case⟩
end start1
theorem witness_1 : WitnessClaimed_1 := ⟨start1.p0, start1.e0, start1.about1, start1.theMethod, start1.args0, start1.below0, start1.atStart⟩
end Jvm.Pilot.@@N@@
