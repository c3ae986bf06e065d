import JvmDerived
import JvmDerived.Pilot.@@N@@Statement
import JvmDerived.Pilot.@@N@@Code
set_option linter.unusedVariables false
set_option linter.unusedSimpArgs false
namespace Jvm.RoadKit
open Sem ClassFile Op Lib Jvm.Stand Jvm.Free Jvm.LawKit
theorem own_lrem_eq (x y : Int64) : x - x / y * y = x % y := by
  have h1 := Int64.le_toInt (x % y)
  have h2 := Int64.toInt_lt (x % y)
  have h3 : x.toInt - x.toInt.tdiv y.toInt * y.toInt = (x % y).toInt := by
    rw [Int64.toInt_mod, Int.mul_comm, ← Int.tmod_def]
  apply Int64.toInt_inj.mp
  rw [Int64.toInt_sub, Int64.toInt_mul, Int64.toInt_div, Int.bmod_mul_bmod, Int.sub_bmod_bmod, h3]
  exact Int.bmod_eq_of_le_mul_two (by omega) (by omega)
theorem own_lremM {p : Program} {l : Launch} {e : Env} {R : Room} {s : State} {m : MethodId} {args : Array Value} {below : List Frame} {meth : Method} {c : Code} {T : State} {locs : List Loc} {cells slots : Nat} {g : JFrame} {target : State} (X : Stand p l e R s m args below meth c T locs cells slots) (hx : p.tables.exec = Jvm.exec) (hg : g.method = m) {x y : Int64} {rest : List Value} (hd : decode c.code g.pc = .ok (.lrem, 1)) (hs : g.stack = .long y :: .long x :: rest) (hy : y ≠ 0)
    (hr : Steps p.tables e below (T.setTop { g with pc := g.pc + 1, stack := .long (x % y) :: rest }) target) : Steps p.tables e below (T.setTop g) target :=
  XS.lrem X.here hx hg hd hs hy (by rw [own_lrem_eq x y]; exact hr)
end Jvm.RoadKit
namespace Jvm.Pilot.@@N@@
open Jvm Jvm.ClassFile Sem Op Lib Jvm.Free Jvm.Stand Jvm.LawKit Jvm.RoadKit Bundle Jvm.Pilot.@@N@@.Jvm.D
theorem d2_0 : decode prog_9_method_7_code 0 = .ok (.lload_n 1, 1) := by decide +kernel
theorem d2_1 : decode prog_9_method_7_code 1 = .ok (.lload_n 3, 1) := by decide +kernel
theorem d2_2 : decode prog_9_method_7_code 2 = .ok (.lcmp, 1) := by decide +kernel
theorem d2_3 : decode prog_9_method_7_code 3 = .ok (.ifCond .lt 10, 3) := by decide +kernel
theorem d2_6 : decode prog_9_method_7_code 6 = .ok (.lload_n 1, 1) := by decide +kernel
theorem d2_7 : decode prog_9_method_7_code 7 = .ok (.lload 5, 2) := by decide +kernel
theorem d2_9 : decode prog_9_method_7_code 9 = .ok (.lcmp, 1) := by decide +kernel
theorem d2_10 : decode prog_9_method_7_code 10 = .ok (.ifCond .le 46, 3) := by decide +kernel
theorem d2_56 : decode prog_9_method_7_code 56 = .ok (.lload_n 1, 1) := by decide +kernel
theorem d2_57 : decode prog_9_method_7_code 57 = .ok (.lreturn, 1) := by decide +kernel
theorem pn_10 : plainName "com/example/hornbill/hornbill/model/AccessRenewal" = true := by first | (simp [plainName, overriddenIn]; done) | decide +kernel
theorem ef_rm2 (m : MethodId) (x0 : Addr) (x1 : Int64) (x2 : Int64) (x3 : Int64) : entryFrame m #[(.ref x0), (.long x1), (.long x2), (.long x3)] 7 = mkF m 0 #[.val (.ref x0), .val (.long x1), .second, .val (.long x2), .second, .val (.long x3), .second] [] := by first | (simp [entryFrame, mkF, argsToLocals, Value.category]; done) | rfl
def Q2 (Z : State) (vt : Addr) (vq : Int64) (vlo : Int64) (vhi : Int64) (h0 : Heap) (n0 : Nat) (v : Option Value) (h : Heap) (L : List Loc) : Prop := v = some (.long vq) ∧ Fr n0 L ∧ h = h0
set_option maxRecDepth 65536 in
set_option maxHeartbeats 40000000 in
theorem rm2 (l : Launch) (Z : State) (a0 : Array Value) (hw : ∀ d ∈ tables_1, d.before a0 Z = true) (ws : List Jvm.Cond) (vt : Addr) (vq : Int64) (vlo : Int64) (vhi : Int64) (h0 : Heap) (n0 : Nat) (Z0 : n0 ≤ h0.size) (h1 : ¬ vq < vlo) (h2 : ¬ vhi < vq) :
    MetFree l (⟨"com/example/hornbill/hornbill/model/AccessRenewal", "check", "(Ljava/lang/String;JJJ)J"⟩ : MethodName) (head1 (Jvm.Cond.code (⟨"com/example/hornbill/hornbill/model/AccessRenewal", "check", "(Ljava/lang/String;JJJ)J"⟩ : MethodName) prog_9_method_7_code 7 (some .long) :: ws) ({ frames := 0, cells := 0, slots := 0, locals := 0 } : Room)) (fun a U => a = #[(.ref vt), (.long vq), (.long vlo), (.long vhi)] ∧ Z.Warmed39 U.vm ∧ U.heap = h0) (fun _ _ _ _ _ => True) (fun _ U o U' => ∃ v L, o = .returned v ∧ Q2 Z vt vq vlo vhi h0 n0 v U'.heap L ∧ FrameEnd U o U' L ({ frames := 0, cells := 0, slots := 0, locals := 0 } : Room).cells ({ frames := 0, cells := 0, slots := 0, locals := 0 } : Room).slots) := by
  refine MetFree.of_bodySF (plainFor_of_name pn_10) hisR ?_
  intro p e s m args below meth c s₁ Bd hml0 hP hK
  obtain ⟨rfl, hZ, hh⟩ := hP
  have hx := Bd.exec
  have hby := Bd.bytes
  have hml : c.maxLocals = 7 := hml0
  have hown : s.vm.findClass "com/example/hornbill/hornbill/model/AccessRenewal" = some m.cls := findClass_of_methodNamed Bd.named
  have hnm := (name_of_methodNamed Bd.named Bd.method).1
  have X0 : Stand p l e ({ frames := 0, cells := 0, slots := 0, locals := 0 } : Room) s m #[(.ref vt), (.long vq), (.long vlo), (.long vhi)] below meth c s₁ [] 0 0 := Stand.of_body Bd
  have e0 : s₁.heap = h0 := by rw [← hh, Bd.state]; rfl
  have N0 := Fr.nil n0
  have pre0 : ∀ t, Steps p.tables e below (s₁.setTop (mkF m 0 #[.val (.ref vt), .val (.long vq), .second, .val (.long vlo), .second, .val (.long vhi), .second] [])) t → Steps p.tables e below (s₁.setTop (entryFrame m #[(.ref vt), (.long vq), (.long vlo), (.long vhi)] 7)) t := fun t k => castTop (ef_rm2 m vt vq vlo vhi) k
  obtain ⟨fs, hr, hrun, hended, hW, hsame⟩ := X0.leave (v := some (.long vq)) (fun h => by rw [Bd.returns] at h; cases h)
  refine ⟨_, _, pre0 _ ?_, hrun, hended, _, _, rfl, ?_, ⟨_, rfl⟩, hW, hsame.mono (by decide) (by decide)⟩
  ·
    show Steps p.tables e below (s₁.setTop (mkF m 0 #[.val (.ref vt), .val (.long vq), .second, .val (.long vlo), .second, .val (.long vhi), .second] [])) _
    refine XS.lloadN X0.here hx rfl (hb hby d2_0) rfl ?_
    show Steps p.tables e below (s₁.setTop (mkF m 1 #[.val (.ref vt), .val (.long vq), .second, .val (.long vlo), .second, .val (.long vhi), .second] [(.long vq)])) _
    refine XS.lloadN X0.here hx rfl (hb hby d2_1) rfl ?_
    show Steps p.tables e below (s₁.setTop (mkF m 2 #[.val (.ref vt), .val (.long vq), .second, .val (.long vlo), .second, .val (.long vhi), .second] [(.long vlo), (.long vq)])) _
    refine XS.lcmp X0.here hx rfl (hb hby d2_2) rfl ?_
    show Steps p.tables e below (s₁.setTop (mkF m 3 #[.val (.ref vt), .val (.long vq), .second, .val (.long vlo), .second, .val (.long vhi), .second] [(.int (lcmpW vq vlo))])) _
    refine XS.ifNo X0.here hx rfl (hb hby d2_3) rfl ((if0 _ _).trans (flt ((fun q => h1 ((lw_lt _ _).mp q)) : ¬ ((lcmpW vq vlo) < (0 : Int32)))).1) ?_
    show Steps p.tables e below (s₁.setTop (mkF m 6 #[.val (.ref vt), .val (.long vq), .second, .val (.long vlo), .second, .val (.long vhi), .second] [])) _
    refine XS.lloadN X0.here hx rfl (hb hby d2_6) rfl ?_
    show Steps p.tables e below (s₁.setTop (mkF m 7 #[.val (.ref vt), .val (.long vq), .second, .val (.long vlo), .second, .val (.long vhi), .second] [(.long vq)])) _
    refine XS.lload X0.here hx rfl (hb hby d2_7) rfl ?_
    show Steps p.tables e below (s₁.setTop (mkF m 9 #[.val (.ref vt), .val (.long vq), .second, .val (.long vlo), .second, .val (.long vhi), .second] [(.long vhi), (.long vq)])) _
    refine XS.lcmp X0.here hx rfl (hb hby d2_9) rfl ?_
    show Steps p.tables e below (s₁.setTop (mkF m 10 #[.val (.ref vt), .val (.long vq), .second, .val (.long vlo), .second, .val (.long vhi), .second] [(.int (lcmpW vq vhi))])) _
    refine XS.ifYes X0.here hx rfl (pc0 := 10) (pc' := 56) rfl (hb hby d2_10) rfl ((if0 _ _).trans (flt ((fun q => h2 ((lw_gt _ _).mp q)) : ¬ ((0 : Int32) < (lcmpW vq vhi)))).2.2.2) (by decide) (by decide) ?_
    show Steps p.tables e below (s₁.setTop (mkF m 56 #[.val (.ref vt), .val (.long vq), .second, .val (.long vlo), .second, .val (.long vhi), .second] [])) _
    refine XS.lloadN X0.here hx rfl (hb hby d2_56) rfl ?_
    show Steps p.tables e below (s₁.setTop (mkF m 57 #[.val (.ref vt), .val (.long vq), .second, .val (.long vlo), .second, .val (.long vhi), .second] [(.long vq)])) _
    exact retOut X0 hx (t := .long) (i := .lreturn) Bd.returns rfl (Or.inr (Or.inl ⟨rfl, rfl, _, rfl⟩)) (hb hby d2_57) hr
  ·
    show Q2 Z vt vq vlo vhi h0 n0 _ s₁.heap _
    rw [e0]
    exact ⟨rfl, N0, rfl⟩
theorem d1_0 : decode prog_9_method_5_code 0 = .ok (.ldc 30, 2) := by decide +kernel
theorem d1_2 : decode prog_9_method_5_code 2 = .ok (.lload_n 0, 1) := by decide +kernel
theorem d1_3 : decode prog_9_method_5_code 3 = .ok (.ldc2_w 32, 3) := by decide +kernel
theorem d1_6 : decode prog_9_method_5_code 6 = .ok (.ldc2_w 34, 3) := by decide +kernel
theorem pd_0 : parseMethodDescriptor "(Ljava/lang/String;JJJ)J" = some ⟨[(.object "java/lang/String"), .long, .long, .long], some .long⟩ := by decide +kernel
theorem d1_9 : decode prog_9_method_5_code 9 = .ok (.invokestatic 36, 3) := by decide +kernel
theorem d1_12 : decode prog_9_method_5_code 12 = .ok (.lreturn, 1) := by decide +kernel
theorem ef_rm1 (m : MethodId) (x0 : Int64) : entryFrame m #[(.long x0)] 2 = mkF m 0 #[.val (.long x0), .second] [] := by first | (simp [entryFrame, mkF, argsToLocals, Value.category]; done) | rfl
def Q1 (Z : State) (vq : Int64) (h0 : Heap) (n0 : Nat) (v : Option Value) (h : Heap) (L : List Loc) : Prop := v = some (.long vq) ∧ Fr n0 L
set_option maxRecDepth 65536 in
set_option maxHeartbeats 40000000 in
theorem rm1 (l : Launch) (Z : State) (a0 : Array Value) (hw : ∀ d ∈ tables_1, d.before a0 Z = true) (ws : List Jvm.Cond) (vq : Int64) (h0 : Heap) (n0 : Nat) (Z0 : n0 ≤ h0.size) (h1 : ¬ vq < (300 : Int64)) (h2 : ¬ (86400 : Int64) < vq) :
    MetFree l (⟨"com/example/hornbill/hornbill/model/AccessRenewal", "checkExtension", "(J)J"⟩ : MethodName) (head1 (Jvm.Cond.code (⟨"com/example/hornbill/hornbill/model/AccessRenewal", "checkExtension", "(J)J"⟩ : MethodName) prog_9_method_5_code 2 (some .long) :: ws) ({ frames := 1, cells := 2, slots := 80, locals := 18 } : Room)) (fun a U => a = #[(.long vq)] ∧ Z.Warmed39 U.vm ∧ U.heap = h0) (fun _ _ _ _ _ => True) (fun _ U o U' => ∃ v L, o = .returned v ∧ Q1 Z vq h0 n0 v U'.heap L ∧ ReturnedEndW U o U' L ({ frames := 1, cells := 2, slots := 80, locals := 18 } : Room).cells ({ frames := 1, cells := 2, slots := 80, locals := 18 } : Room).slots) := by
  refine MetFree.of_bodySF (plainFor_of_name pn_10) hisR ?_
  intro p e s m args below meth c s₁ Bd hml0 hP hK
  obtain ⟨rfl, hZ, hh⟩ := hP
  have hx := Bd.exec
  have hby := Bd.bytes
  have hml : c.maxLocals = 2 := hml0
  have hown : s.vm.findClass "com/example/hornbill/hornbill/model/AccessRenewal" = some m.cls := findClass_of_methodNamed Bd.named
  have hnm := (name_of_methodNamed Bd.named Bd.method).1
  have X0 : Stand p l e ({ frames := 1, cells := 2, slots := 80, locals := 18 } : Room) s m #[(.long vq)] below meth c s₁ [] 0 0 := Stand.of_body Bd
  have e0 : s₁.heap = h0 := by rw [← hh, Bd.state]; rfl
  have N0 := Fr.nil n0
  have pre0 : ∀ t, Steps p.tables e below (s₁.setTop (mkF m 0 #[.val (.long vq), .second] [])) t → Steps p.tables e below (s₁.setTop (entryFrame m #[(.long vq)] 2)) t := fun t k => castTop (ef_rm1 m vq) k
  have wS : ∀ a ∈ Bundle.stringAtoms, a.before a0 Z = true := fun d hd => hw d ((by decide +kernel : ∀ d ∈ Bundle.stringAtoms, d ∈ tables_1) d hd)
  obtain ⟨vt, TL, hL_, kL_, XL, eL, EL, hSL, hkL, hZL, hownL, stL⟩ := ldcS (s := s) (vm0 := s.vm) (show Stand p l e ({ frames := 1, cells := 2, slots := 80, locals := 18 } : Room) (s.setVm s.vm) m #[(.long vq)] below meth c s₁ [] 0 0 from X0) hx hZ hown (hw _ (List.mem_of_getElem? (i := 7) rfl)) wS e0 (k0 := h0.size) ((State.WarmedH.refl s).since _) (Nat.le_refl _) (g := (mkF m 0 #[.val (.long vq), .second] [])) rfl (hb hby d1_0) (n := 76) (by decide) (by decide) (by decide) (by decide)
  have hZ := hZL
  have hown := hownL
  have ZL : n0 ≤ hL_.size := Nat.le_trans Z0 EL.1
  obtain ⟨_, _, ⟨T1, L1, k1, n1⟩, -, X1, ⟨Lc1, hQ1, l1, y1, z1⟩, st1⟩ := Jvm.LawKit.callS XL hx (y := (⟨"com/example/hornbill/hornbill/model/AccessRenewal", "check", "(Ljava/lang/String;JJJ)J"⟩ : MethodName)) hown (mvT hZ (hw _ (List.mem_of_getElem? (i := 17) rfl))) (mvT hZ (hw _ (List.mem_of_getElem? (i := 18) rfl))) (mvT hZ (hw _ (List.mem_of_getElem? (i := 5) rfl))) (mvT hZ (hw _ (List.mem_of_getElem? (i := 19) rfl))) (by decide) (backOf (W := 0) (rm2 l Z a0 hw [] vt vq (300 : Int64) (86400 : Int64)  hL_ n0 ZL h1 h2) hZ (hw _ (List.mem_of_getElem? (i := 19) rfl)) (hw _ (List.mem_of_getElem? (i := 5) rfl)) (by decide) (by decide)) (g := (mkF m 9 #[.val (.long vq), .second] [(.long (86400 : Int64)), (.long (300 : Int64)), (.long vq), (.ref vt)])) rfl (by rw [hml]; rfl) (argsL := [(.ref vt), (.long vq), (.long (300 : Int64)), (.long (86400 : Int64))]) (rest := []) (lenOf pd_0 rfl) rfl (by show 2 * 0 + _ ≤ _; exact Nat.le_of_eq rfl) (hb hby d1_9) (fun _ _ => ⟨rfl, eL, (by decide : 2 + 0 ≤ _), (by decide : 80 + 0 ≤ _)⟩)
  dsimp only [Pt.U, Pt.locs, Pt.cells, Pt.slots] at X1 l1 y1 z1 st1 hQ1
  subst l1 y1 z1
  obtain ⟨rfl, N1q, e1q⟩ := hQ1
  have N1 := Fr.app N0 N1q
  obtain ⟨fs, hr, hrun, hended, hRW⟩ := X1.leaveW hSL (by rw [e1q]; exact hkL) (v := some (.long vq)) (fun h => by rw [Bd.returns] at h; cases h)
  refine ⟨_, _, pre0 _ ?_, hrun, hended, _, _, rfl, ?_, hRW.1, hRW.2.1, hRW.2.2.1, hRW.2.2.2.mono (by decide) (by decide)⟩
  ·
    show Steps p.tables e below (s₁.setTop (mkF m 0 #[.val (.long vq), .second] [])) _
    refine stL _ ?_
    show Steps p.tables e below (TL.setTop (mkF m 2 #[.val (.long vq), .second] [(.ref vt)])) _
    refine XS.lloadN XL.here hx rfl (hb hby d1_2) rfl ?_
    show Steps p.tables e below (TL.setTop (mkF m 3 #[.val (.long vq), .second] [(.long vq), (.ref vt)])) _
    refine XL.ldc2J hx hown (mvT hZ (hw _ (List.mem_of_getElem? (i := 15) rfl))) (g := (mkF m 3 #[.val (.long vq), .second] [(.long vq), (.ref vt)])) rfl (hb hby d1_3) ?_
    show Steps p.tables e below (TL.setTop (mkF m 6 #[.val (.long vq), .second] [(.long (300 : Int64)), (.long vq), (.ref vt)])) _
    refine XL.ldc2J hx hown (mvT hZ (hw _ (List.mem_of_getElem? (i := 16) rfl))) (g := (mkF m 6 #[.val (.long vq), .second] [(.long (300 : Int64)), (.long vq), (.ref vt)])) rfl (hb hby d1_6) ?_
    show Steps p.tables e below (TL.setTop (mkF m 9 #[.val (.long vq), .second] [(.long (86400 : Int64)), (.long (300 : Int64)), (.long vq), (.ref vt)])) _
    refine st1 _ ?_
    show Steps p.tables e below (T1.setTop (mkF m 12 #[.val (.long vq), .second] [(.long vq)])) _
    exact retOut X1 hx (t := .long) (i := .lreturn) Bd.returns rfl (Or.inr (Or.inl ⟨rfl, rfl, _, rfl⟩)) (hb hby d1_12) hr
  ·
    show Q1 Z vq h0 n0 _ T1.heap _
    exact ⟨rfl, N1⟩
theorem own_and_max (u : Int64) : 0 ≤ (u &&& (9223372036854775807 : Int64)).toInt := by
  have : (u &&& (9223372036854775807 : Int64)).toInt = (u.toBitVec &&& 9223372036854775807#64).toInt := rfl
  rw [this, BitVec.toInt_eq_toNat_of_lt]
  · omega
  · rw [BitVec.toNat_and]
    have := Nat.and_le_right (n := u.toBitVec.toNat) (m := (9223372036854775807#64).toNat)
    have e : (9223372036854775807#64).toNat = 9223372036854775807 := rfl
    omega
theorem own_r0 (vx : Int64) : ((300 : Int64) + ((vx &&& (9223372036854775807 : Int64)) % (86101 : Int64))).toInt = 300 + (vx &&& (9223372036854775807 : Int64)).toInt.tmod 86101 ∧ 0 ≤ (vx &&& (9223372036854775807 : Int64)).toInt.tmod 86101 ∧ (vx &&& (9223372036854775807 : Int64)).toInt.tmod 86101 < 86101 := by
  have b1 := Int.tmod_nonneg 86101 (own_and_max vx)
  have b2 := Int.tmod_lt_of_pos (vx &&& (9223372036854775807 : Int64)).toInt (show (0 : Int) < 86101 by decide)
  have hm : ((vx &&& (9223372036854775807 : Int64)) % (86101 : Int64)).toInt = (vx &&& (9223372036854775807 : Int64)).toInt.tmod 86101 := Int64.toInt_mod _ _
  refine ⟨?_, b1, b2⟩
  rw [Int64.toInt_add, hm]
  show (300 + _ : Int).bmod _ = _
  rw [Int.bmod_eq_of_le_mul_two] <;> omega
theorem own_r1 (vx : Int64) : ¬ ((300 : Int64) + ((vx &&& (9223372036854775807 : Int64)) % (86101 : Int64))) < (300 : Int64) := by
  obtain ⟨e, b1, b2⟩ := own_r0 vx
  rw [Int64.lt_iff_toInt_lt, e]
  have : (300 : Int64).toInt = 300 := rfl
  omega
theorem own_r2 (vx : Int64) : ¬ (86400 : Int64) < ((300 : Int64) + ((vx &&& (9223372036854775807 : Int64)) % (86101 : Int64))) := by
  obtain ⟨e, b1, b2⟩ := own_r0 vx
  rw [Int64.lt_iff_toInt_lt, e]
  have : (86400 : Int64).toInt = 86400 := rfl
  omega
theorem pd_1 : parseMethodDescriptor "(J)J" = some ⟨[.long], some .long⟩ := by decide +kernel
theorem pn_17 : plainName "com/example/hornbill/hornbill/model/AccessRenewalCheckExtensionPinLaw" = true := by first | (simp [plainName, overriddenIn]; done) | decide +kernel
theorem ef_rm0 (m : MethodId) (x0 : Int64) (x1 : Int32) : entryFrame m #[(.long x0), (.int x1)] maxLocals = mkF m 0 #[.val (.long x0), .second, .val (.int x1), .unset, .unset, .unset, .unset, .unset] [] := by first | (simp [entryFrame, mkF, argsToLocals, Value.category, maxLocals]; done) | rfl
def Q0 (Z : State) (vx : Int64) (vm : Int32) (h0 : Heap) (n0 : Nat) (v : Option Value) (h : Heap) (L : List Loc) : Prop := v = some (.int (1 : Int32)) ∧ Fr n0 L
set_option maxRecDepth 65536 in
set_option maxHeartbeats 40000000 in
theorem rm0 (l : Launch) (Z : State) (a0 : Array Value) (hw : ∀ d ∈ tables_1, d.before a0 Z = true) (ws : List Jvm.Cond) (vx : Int64) (vm : Int32) (h0 : Heap) (n0 : Nat) (Z0 : n0 ≤ h0.size) :
    MetFree l x (head1 (Jvm.Cond.code x code maxLocals ret :: ws) room_1) (fun a U => a = #[(.long vx), (.int vm)] ∧ Z.Warmed39 U.vm ∧ U.heap = h0) (fun _ _ _ _ _ => True) (fun _ U o U' => ∃ v L, o = .returned v ∧ Q0 Z vx vm h0 n0 v U'.heap L ∧ ReturnedEndW U o U' L room_1.cells room_1.slots) := by
  refine MetFree.of_bodySF (plainFor_of_name pn_17) hisR ?_
  intro p e s m args below meth c s₁ Bd hml0 hP hK
  obtain ⟨rfl, hZ, hh⟩ := hP
  have hx := Bd.exec
  have hby := Bd.bytes
  have hml : c.maxLocals = 8 := hml0
  have hown : s.vm.findClass "com/example/hornbill/hornbill/model/AccessRenewalCheckExtensionPinLaw" = some m.cls := findClass_of_methodNamed Bd.named
  have hnm := (name_of_methodNamed Bd.named Bd.method).1
  have X0 : Stand p l e room_1 s m #[(.long vx), (.int vm)] below meth c s₁ [] 0 0 := Stand.of_body Bd
  have e0 : s₁.heap = h0 := by rw [← hh, Bd.state]; rfl
  have N0 := Fr.nil n0
  have pre0 : ∀ t, Steps p.tables e below (s₁.setTop (mkF m 0 #[.val (.long vx), .second, .val (.int vm), .unset, .unset, .unset, .unset, .unset] [])) t → Steps p.tables e below (s₁.setTop (entryFrame m #[(.long vx), (.int vm)] maxLocals)) t := fun t k => castTop (ef_rm0 m vx vm) k
  have pre1 : ∀ t, Steps p.tables e below (s₁.setTop (mkF m 7 #[.val (.long vx), .second, .val (.int vm), .unset, .unset, .val (.int (vm &&& (3 : Int32))), .unset, .unset] [(.int (vm &&& (3 : Int32)))])) t → Steps p.tables e below (s₁.setTop (entryFrame m #[(.long vx), (.int vm)] maxLocals)) t := by
    intro t kt
    refine pre0 t ?_
    show Steps p.tables e below (s₁.setTop (mkF m 0 #[.val (.long vx), .second, .val (.int vm), .unset, .unset, .unset, .unset, .unset] [])) _
    refine XS.iloadN X0.here hx rfl (hb hby at_0) rfl ?_
    show Steps p.tables e below (s₁.setTop (mkF m 1 #[.val (.long vx), .second, .val (.int vm), .unset, .unset, .unset, .unset, .unset] [(.int vm)])) _
    refine XS.iconst X0.here hx rfl (hb hby at_1) ?_
    show Steps p.tables e below (s₁.setTop (mkF m 2 #[.val (.long vx), .second, .val (.int vm), .unset, .unset, .unset, .unset, .unset] [(.int (3 : Int32)), (.int vm)])) _
    refine XS.iand X0.here hx rfl (hb hby at_2) rfl ?_
    show Steps p.tables e below (s₁.setTop (mkF m 3 #[.val (.long vx), .second, .val (.int vm), .unset, .unset, .unset, .unset, .unset] [(.int (vm &&& (3 : Int32)))])) _
    refine XS.istore X0.here hx rfl (hb hby at_3) rfl (l' := #[.val (.long vx), .second, .val (.int vm), .unset, .unset, .val (.int (vm &&& (3 : Int32))), .unset, .unset]) rfl ?_
    show Steps p.tables e below (s₁.setTop (mkF m 5 #[.val (.long vx), .second, .val (.int vm), .unset, .unset, .val (.int (vm &&& (3 : Int32))), .unset, .unset] [])) _
    refine XS.iload X0.here hx rfl (hb hby at_5) rfl ?_
    exact kt
  by_cases hc2 : (vm &&& (3 : Int32)) = (0 : Int32)
  ·
    obtain ⟨_, _, ⟨T3, L3, k3, n3⟩, -, X3, hS3, hg3, ⟨Lc3, hQ3, l3, y3, z3⟩, st3⟩ := callSS X0 hx (y := (⟨"com/example/hornbill/hornbill/model/AccessRenewal", "checkExtension", "(J)J"⟩ : MethodName)) hown (mvT hZ (hw _ (List.mem_of_getElem? (i := 3) rfl))) (mvT hZ (hw _ (List.mem_of_getElem? (i := 4) rfl))) (mvT hZ (hw _ (List.mem_of_getElem? (i := 5) rfl))) (mvT hZ (hw _ (List.mem_of_getElem? (i := 6) rfl))) (by decide) (backOfS (W := 0) (rm1 l Z a0 hw [] (300 : Int64) h0 n0 Z0 (by decide) (by decide)) hZ (hw _ (List.mem_of_getElem? (i := 6) rfl)) (hw _ (List.mem_of_getElem? (i := 5) rfl)) (by decide) (by decide)) (g := (mkF m 45 #[.val (.long vx), .second, .val (.int vm), .val (.long (300 : Int64)), .second, .val (.int (vm &&& (3 : Int32))), .unset, .unset] [(.long (300 : Int64))])) rfl (by rw [hml]; rfl) (argsL := [(.long (300 : Int64))]) (rest := []) (lenOf pd_1 rfl) rfl (by show 2 * 0 + _ ≤ _; exact Nat.le_of_eq rfl) (hb hby at_45) (fun _ _ => ⟨rfl, e0, (by decide : 0 + 2 ≤ _), (by decide : 0 + 80 ≤ _)⟩)
    dsimp only [Pt.U, Pt.locs, Pt.cells, Pt.slots] at X3 l3 y3 z3 st3 hQ3 hS3
    subst l3 y3 z3
    obtain ⟨rfl, N3q⟩ := hQ3
    have N3 := Fr.app N0 N3q
    obtain ⟨fs, hr, hrun, hended, hRW⟩ := X3.leaveW hS3 (Nat.le_refl _) (v := some (.int (1 : Int32))) (fun h => by rw [Bd.returns] at h; cases h)
    refine ⟨_, _, pre1 _ ?_, hrun, hended, _, _, rfl, ?_, hRW.1, hRW.2.1, hRW.2.2.1, hRW.2.2.2.mono (by decide) (by decide)⟩
    ·
      show Steps p.tables e below (s₁.setTop (mkF m 7 #[.val (.long vx), .second, .val (.int vm), .unset, .unset, .val (.int (vm &&& (3 : Int32))), .unset, .unset] [(.int (vm &&& (3 : Int32)))])) _
      refine XS.ifNo X0.here hx rfl (hb hby at_7) rfl ((if0 _ _).trans (teq (hc2 : (vm &&& (3 : Int32)) = (0 : Int32))).2) ?_
      show Steps p.tables e below (s₁.setTop (mkF m 10 #[.val (.long vx), .second, .val (.int vm), .unset, .unset, .val (.int (vm &&& (3 : Int32))), .unset, .unset] [])) _
      refine X0.ldc2J hx hown (mvT hZ (hw _ (List.mem_of_getElem? (i := 0) rfl))) (g := (mkF m 10 #[.val (.long vx), .second, .val (.int vm), .unset, .unset, .val (.int (vm &&& (3 : Int32))), .unset, .unset] [])) rfl (hb hby at_10) ?_
      show Steps p.tables e below (s₁.setTop (mkF m 13 #[.val (.long vx), .second, .val (.int vm), .unset, .unset, .val (.int (vm &&& (3 : Int32))), .unset, .unset] [(.long (300 : Int64))])) _
      refine XS.lstoreN X0.here hx rfl (hb hby at_13) rfl (l' := #[.val (.long vx), .second, .val (.int vm), .val (.long (300 : Int64)), .second, .val (.int (vm &&& (3 : Int32))), .unset, .unset]) rfl ?_
      show Steps p.tables e below (s₁.setTop (mkF m 14 #[.val (.long vx), .second, .val (.int vm), .val (.long (300 : Int64)), .second, .val (.int (vm &&& (3 : Int32))), .unset, .unset] [])) _
      refine XS.goto X0.here hx rfl (pc0 := 14) (pc' := 44) rfl (hb hby at_14) (by decide) (by decide) ?_
      show Steps p.tables e below (s₁.setTop (mkF m 44 #[.val (.long vx), .second, .val (.int vm), .val (.long (300 : Int64)), .second, .val (.int (vm &&& (3 : Int32))), .unset, .unset] [])) _
      refine XS.lloadN X0.here hx rfl (hb hby at_44) rfl ?_
      show Steps p.tables e below (s₁.setTop (mkF m 45 #[.val (.long vx), .second, .val (.int vm), .val (.long (300 : Int64)), .second, .val (.int (vm &&& (3 : Int32))), .unset, .unset] [(.long (300 : Int64))])) _
      refine st3.trans ?_
      show Steps p.tables e below (T3.setTop (mkF m 48 #[.val (.long vx), .second, .val (.int vm), .val (.long (300 : Int64)), .second, .val (.int (vm &&& (3 : Int32))), .unset, .unset] [(.long (300 : Int64))])) _
      refine XS.lstore X3.here hx rfl (hb hby at_48) rfl (l' := #[.val (.long vx), .second, .val (.int vm), .val (.long (300 : Int64)), .second, .val (.int (vm &&& (3 : Int32))), .val (.long (300 : Int64)), .second]) rfl ?_
      show Steps p.tables e below (T3.setTop (mkF m 50 #[.val (.long vx), .second, .val (.int vm), .val (.long (300 : Int64)), .second, .val (.int (vm &&& (3 : Int32))), .val (.long (300 : Int64)), .second] [])) _
      refine XS.lload X3.here hx rfl (hb hby at_50) rfl ?_
      show Steps p.tables e below (T3.setTop (mkF m 52 #[.val (.long vx), .second, .val (.int vm), .val (.long (300 : Int64)), .second, .val (.int (vm &&& (3 : Int32))), .val (.long (300 : Int64)), .second] [(.long (300 : Int64))])) _
      refine XS.lloadN X3.here hx rfl (hb hby at_52) rfl ?_
      show Steps p.tables e below (T3.setTop (mkF m 53 #[.val (.long vx), .second, .val (.int vm), .val (.long (300 : Int64)), .second, .val (.int (vm &&& (3 : Int32))), .val (.long (300 : Int64)), .second] [(.long (300 : Int64)), (.long (300 : Int64))])) _
      refine XS.lcmp X3.here hx rfl (hb hby at_53) rfl ?_
      show Steps p.tables e below (T3.setTop (mkF m 54 #[.val (.long vx), .second, .val (.int vm), .val (.long (300 : Int64)), .second, .val (.int (vm &&& (3 : Int32))), .val (.long (300 : Int64)), .second] [(.int (lcmpW (300 : Int64) (300 : Int64)))])) _
      refine XS.ifNo X3.here hx rfl (hb hby at_54) rfl ((if0 _ _).trans (teq (((lw_eq _ _).mpr rfl) : (lcmpW (300 : Int64) (300 : Int64)) = (0 : Int32))).2) ?_
      show Steps p.tables e below (T3.setTop (mkF m 57 #[.val (.long vx), .second, .val (.int vm), .val (.long (300 : Int64)), .second, .val (.int (vm &&& (3 : Int32))), .val (.long (300 : Int64)), .second] [])) _
      refine XS.iconst X3.here hx rfl (hb hby at_57) ?_
      show Steps p.tables e below (T3.setTop (mkF m 58 #[.val (.long vx), .second, .val (.int vm), .val (.long (300 : Int64)), .second, .val (.int (vm &&& (3 : Int32))), .val (.long (300 : Int64)), .second] [(.int (1 : Int32))])) _
      refine XS.goto X3.here hx rfl (pc0 := 58) (pc' := 62) rfl (hb hby at_58) (by decide) (by decide) ?_
      show Steps p.tables e below (T3.setTop (mkF m 62 #[.val (.long vx), .second, .val (.int vm), .val (.long (300 : Int64)), .second, .val (.int (vm &&& (3 : Int32))), .val (.long (300 : Int64)), .second] [(.int (1 : Int32))])) _
      exact retN X3 hx (t := .boolean) Bd.returns (by simp) (hb hby at_62) hr
    ·
      show Q0 Z vx vm h0 n0 _ T3.heap _
      exact ⟨rfl, N3⟩
  ·
    have pre4 : ∀ t, Steps p.tables e below (s₁.setTop (mkF m 20 #[.val (.long vx), .second, .val (.int vm), .unset, .unset, .val (.int (vm &&& (3 : Int32))), .unset, .unset] [(.int (1 : Int32)), (.int (vm &&& (3 : Int32)))])) t → Steps p.tables e below (s₁.setTop (entryFrame m #[(.long vx), (.int vm)] maxLocals)) t := by
      intro t kt
      refine pre1 t ?_
      show Steps p.tables e below (s₁.setTop (mkF m 7 #[.val (.long vx), .second, .val (.int vm), .unset, .unset, .val (.int (vm &&& (3 : Int32))), .unset, .unset] [(.int (vm &&& (3 : Int32)))])) _
      refine XS.ifYes X0.here hx rfl (pc0 := 7) (pc' := 17) rfl (hb hby at_7) rfl ((if0 _ _).trans (feq (hc2 : ¬ ((vm &&& (3 : Int32)) = (0 : Int32)))).2) (by decide) (by decide) ?_
      show Steps p.tables e below (s₁.setTop (mkF m 17 #[.val (.long vx), .second, .val (.int vm), .unset, .unset, .val (.int (vm &&& (3 : Int32))), .unset, .unset] [])) _
      refine XS.iload X0.here hx rfl (hb hby at_17) rfl ?_
      show Steps p.tables e below (s₁.setTop (mkF m 19 #[.val (.long vx), .second, .val (.int vm), .unset, .unset, .val (.int (vm &&& (3 : Int32))), .unset, .unset] [(.int (vm &&& (3 : Int32)))])) _
      refine XS.iconst X0.here hx rfl (hb hby at_19) ?_
      exact kt
    by_cases hc5 : (vm &&& (3 : Int32)) = (1 : Int32)
    ·
      obtain ⟨_, _, ⟨T6, L6, k6, n6⟩, -, X6, hS6, hg6, ⟨Lc6, hQ6, l6, y6, z6⟩, st6⟩ := callSS X0 hx (y := (⟨"com/example/hornbill/hornbill/model/AccessRenewal", "checkExtension", "(J)J"⟩ : MethodName)) hown (mvT hZ (hw _ (List.mem_of_getElem? (i := 3) rfl))) (mvT hZ (hw _ (List.mem_of_getElem? (i := 4) rfl))) (mvT hZ (hw _ (List.mem_of_getElem? (i := 5) rfl))) (mvT hZ (hw _ (List.mem_of_getElem? (i := 6) rfl))) (by decide) (backOfS (W := 0) (rm1 l Z a0 hw [] (86400 : Int64) h0 n0 Z0 (by decide) (by decide)) hZ (hw _ (List.mem_of_getElem? (i := 6) rfl)) (hw _ (List.mem_of_getElem? (i := 5) rfl)) (by decide) (by decide)) (g := (mkF m 45 #[.val (.long vx), .second, .val (.int vm), .val (.long (86400 : Int64)), .second, .val (.int (vm &&& (3 : Int32))), .unset, .unset] [(.long (86400 : Int64))])) rfl (by rw [hml]; rfl) (argsL := [(.long (86400 : Int64))]) (rest := []) (lenOf pd_1 rfl) rfl (by show 2 * 0 + _ ≤ _; exact Nat.le_of_eq rfl) (hb hby at_45) (fun _ _ => ⟨rfl, e0, (by decide : 0 + 2 ≤ _), (by decide : 0 + 80 ≤ _)⟩)
      dsimp only [Pt.U, Pt.locs, Pt.cells, Pt.slots] at X6 l6 y6 z6 st6 hQ6 hS6
      subst l6 y6 z6
      obtain ⟨rfl, N6q⟩ := hQ6
      have N6 := Fr.app N0 N6q
      obtain ⟨fs, hr, hrun, hended, hRW⟩ := X6.leaveW hS6 (Nat.le_refl _) (v := some (.int (1 : Int32))) (fun h => by rw [Bd.returns] at h; cases h)
      refine ⟨_, _, pre4 _ ?_, hrun, hended, _, _, rfl, ?_, hRW.1, hRW.2.1, hRW.2.2.1, hRW.2.2.2.mono (by decide) (by decide)⟩
      ·
        show Steps p.tables e below (s₁.setTop (mkF m 20 #[.val (.long vx), .second, .val (.int vm), .unset, .unset, .val (.int (vm &&& (3 : Int32))), .unset, .unset] [(.int (1 : Int32)), (.int (vm &&& (3 : Int32)))])) _
        refine XS.icmpNo X0.here hx rfl (hb hby at_20) rfl (teq (hc5 : (vm &&& (3 : Int32)) = (1 : Int32))).2 ?_
        show Steps p.tables e below (s₁.setTop (mkF m 23 #[.val (.long vx), .second, .val (.int vm), .unset, .unset, .val (.int (vm &&& (3 : Int32))), .unset, .unset] [])) _
        refine X0.ldc2J hx hown (mvT hZ (hw _ (List.mem_of_getElem? (i := 20) rfl))) (g := (mkF m 23 #[.val (.long vx), .second, .val (.int vm), .unset, .unset, .val (.int (vm &&& (3 : Int32))), .unset, .unset] [])) rfl (hb hby at_23) ?_
        show Steps p.tables e below (s₁.setTop (mkF m 26 #[.val (.long vx), .second, .val (.int vm), .unset, .unset, .val (.int (vm &&& (3 : Int32))), .unset, .unset] [(.long (86400 : Int64))])) _
        refine XS.lstoreN X0.here hx rfl (hb hby at_26) rfl (l' := #[.val (.long vx), .second, .val (.int vm), .val (.long (86400 : Int64)), .second, .val (.int (vm &&& (3 : Int32))), .unset, .unset]) rfl ?_
        show Steps p.tables e below (s₁.setTop (mkF m 27 #[.val (.long vx), .second, .val (.int vm), .val (.long (86400 : Int64)), .second, .val (.int (vm &&& (3 : Int32))), .unset, .unset] [])) _
        refine XS.goto X0.here hx rfl (pc0 := 27) (pc' := 44) rfl (hb hby at_27) (by decide) (by decide) ?_
        show Steps p.tables e below (s₁.setTop (mkF m 44 #[.val (.long vx), .second, .val (.int vm), .val (.long (86400 : Int64)), .second, .val (.int (vm &&& (3 : Int32))), .unset, .unset] [])) _
        refine XS.lloadN X0.here hx rfl (hb hby at_44) rfl ?_
        show Steps p.tables e below (s₁.setTop (mkF m 45 #[.val (.long vx), .second, .val (.int vm), .val (.long (86400 : Int64)), .second, .val (.int (vm &&& (3 : Int32))), .unset, .unset] [(.long (86400 : Int64))])) _
        refine st6.trans ?_
        show Steps p.tables e below (T6.setTop (mkF m 48 #[.val (.long vx), .second, .val (.int vm), .val (.long (86400 : Int64)), .second, .val (.int (vm &&& (3 : Int32))), .unset, .unset] [(.long (86400 : Int64))])) _
        refine XS.lstore X6.here hx rfl (hb hby at_48) rfl (l' := #[.val (.long vx), .second, .val (.int vm), .val (.long (86400 : Int64)), .second, .val (.int (vm &&& (3 : Int32))), .val (.long (86400 : Int64)), .second]) rfl ?_
        show Steps p.tables e below (T6.setTop (mkF m 50 #[.val (.long vx), .second, .val (.int vm), .val (.long (86400 : Int64)), .second, .val (.int (vm &&& (3 : Int32))), .val (.long (86400 : Int64)), .second] [])) _
        refine XS.lload X6.here hx rfl (hb hby at_50) rfl ?_
        show Steps p.tables e below (T6.setTop (mkF m 52 #[.val (.long vx), .second, .val (.int vm), .val (.long (86400 : Int64)), .second, .val (.int (vm &&& (3 : Int32))), .val (.long (86400 : Int64)), .second] [(.long (86400 : Int64))])) _
        refine XS.lloadN X6.here hx rfl (hb hby at_52) rfl ?_
        show Steps p.tables e below (T6.setTop (mkF m 53 #[.val (.long vx), .second, .val (.int vm), .val (.long (86400 : Int64)), .second, .val (.int (vm &&& (3 : Int32))), .val (.long (86400 : Int64)), .second] [(.long (86400 : Int64)), (.long (86400 : Int64))])) _
        refine XS.lcmp X6.here hx rfl (hb hby at_53) rfl ?_
        show Steps p.tables e below (T6.setTop (mkF m 54 #[.val (.long vx), .second, .val (.int vm), .val (.long (86400 : Int64)), .second, .val (.int (vm &&& (3 : Int32))), .val (.long (86400 : Int64)), .second] [(.int (lcmpW (86400 : Int64) (86400 : Int64)))])) _
        refine XS.ifNo X6.here hx rfl (hb hby at_54) rfl ((if0 _ _).trans (teq (((lw_eq _ _).mpr rfl) : (lcmpW (86400 : Int64) (86400 : Int64)) = (0 : Int32))).2) ?_
        show Steps p.tables e below (T6.setTop (mkF m 57 #[.val (.long vx), .second, .val (.int vm), .val (.long (86400 : Int64)), .second, .val (.int (vm &&& (3 : Int32))), .val (.long (86400 : Int64)), .second] [])) _
        refine XS.iconst X6.here hx rfl (hb hby at_57) ?_
        show Steps p.tables e below (T6.setTop (mkF m 58 #[.val (.long vx), .second, .val (.int vm), .val (.long (86400 : Int64)), .second, .val (.int (vm &&& (3 : Int32))), .val (.long (86400 : Int64)), .second] [(.int (1 : Int32))])) _
        refine XS.goto X6.here hx rfl (pc0 := 58) (pc' := 62) rfl (hb hby at_58) (by decide) (by decide) ?_
        show Steps p.tables e below (T6.setTop (mkF m 62 #[.val (.long vx), .second, .val (.int vm), .val (.long (86400 : Int64)), .second, .val (.int (vm &&& (3 : Int32))), .val (.long (86400 : Int64)), .second] [(.int (1 : Int32))])) _
        exact retN X6 hx (t := .boolean) Bd.returns (by simp) (hb hby at_62) hr
      ·
        show Q0 Z vx vm h0 n0 _ T6.heap _
        exact ⟨rfl, N6⟩
    ·
      obtain ⟨_, _, ⟨T7, L7, k7, n7⟩, -, X7, hS7, hg7, ⟨Lc7, hQ7, l7, y7, z7⟩, st7⟩ := callSS X0 hx (y := (⟨"com/example/hornbill/hornbill/model/AccessRenewal", "checkExtension", "(J)J"⟩ : MethodName)) hown (mvT hZ (hw _ (List.mem_of_getElem? (i := 3) rfl))) (mvT hZ (hw _ (List.mem_of_getElem? (i := 4) rfl))) (mvT hZ (hw _ (List.mem_of_getElem? (i := 5) rfl))) (mvT hZ (hw _ (List.mem_of_getElem? (i := 6) rfl))) (by decide) (backOfS (W := 0) (rm1 l Z a0 hw [] ((300 : Int64) + ((vx &&& (9223372036854775807 : Int64)) % (86101 : Int64))) h0 n0 Z0 (own_r1 vx) (own_r2 vx)) hZ (hw _ (List.mem_of_getElem? (i := 6) rfl)) (hw _ (List.mem_of_getElem? (i := 5) rfl)) (by decide) (by decide)) (g := (mkF m 45 #[.val (.long vx), .second, .val (.int vm), .val (.long ((300 : Int64) + ((vx &&& (9223372036854775807 : Int64)) % (86101 : Int64)))), .second, .val (.int (vm &&& (3 : Int32))), .unset, .unset] [(.long ((300 : Int64) + ((vx &&& (9223372036854775807 : Int64)) % (86101 : Int64))))])) rfl (by rw [hml]; rfl) (argsL := [(.long ((300 : Int64) + ((vx &&& (9223372036854775807 : Int64)) % (86101 : Int64))))]) (rest := []) (lenOf pd_1 rfl) rfl (by show 2 * 0 + _ ≤ _; exact Nat.le_of_eq rfl) (hb hby at_45) (fun _ _ => ⟨rfl, e0, (by decide : 0 + 2 ≤ _), (by decide : 0 + 80 ≤ _)⟩)
      dsimp only [Pt.U, Pt.locs, Pt.cells, Pt.slots] at X7 l7 y7 z7 st7 hQ7 hS7
      subst l7 y7 z7
      obtain ⟨rfl, N7q⟩ := hQ7
      have N7 := Fr.app N0 N7q
      obtain ⟨fs, hr, hrun, hended, hRW⟩ := X7.leaveW hS7 (Nat.le_refl _) (v := some (.int (1 : Int32))) (fun h => by rw [Bd.returns] at h; cases h)
      refine ⟨_, _, pre4 _ ?_, hrun, hended, _, _, rfl, ?_, hRW.1, hRW.2.1, hRW.2.2.1, hRW.2.2.2.mono (by decide) (by decide)⟩
      ·
        show Steps p.tables e below (s₁.setTop (mkF m 20 #[.val (.long vx), .second, .val (.int vm), .unset, .unset, .val (.int (vm &&& (3 : Int32))), .unset, .unset] [(.int (1 : Int32)), (.int (vm &&& (3 : Int32)))])) _
        refine XS.icmpYes X0.here hx rfl (pc0 := 20) (pc' := 30) rfl (hb hby at_20) rfl (feq (hc5 : ¬ ((vm &&& (3 : Int32)) = (1 : Int32)))).2 (by decide) (by decide) ?_
        show Steps p.tables e below (s₁.setTop (mkF m 30 #[.val (.long vx), .second, .val (.int vm), .unset, .unset, .val (.int (vm &&& (3 : Int32))), .unset, .unset] [])) _
        refine X0.ldc2J hx hown (mvT hZ (hw _ (List.mem_of_getElem? (i := 0) rfl))) (g := (mkF m 30 #[.val (.long vx), .second, .val (.int vm), .unset, .unset, .val (.int (vm &&& (3 : Int32))), .unset, .unset] [])) rfl (hb hby at_30) ?_
        show Steps p.tables e below (s₁.setTop (mkF m 33 #[.val (.long vx), .second, .val (.int vm), .unset, .unset, .val (.int (vm &&& (3 : Int32))), .unset, .unset] [(.long (300 : Int64))])) _
        refine XS.lloadN X0.here hx rfl (hb hby at_33) rfl ?_
        show Steps p.tables e below (s₁.setTop (mkF m 34 #[.val (.long vx), .second, .val (.int vm), .unset, .unset, .val (.int (vm &&& (3 : Int32))), .unset, .unset] [(.long vx), (.long (300 : Int64))])) _
        refine X0.ldc2J hx hown (mvT hZ (hw _ (List.mem_of_getElem? (i := 1) rfl))) (g := (mkF m 34 #[.val (.long vx), .second, .val (.int vm), .unset, .unset, .val (.int (vm &&& (3 : Int32))), .unset, .unset] [(.long vx), (.long (300 : Int64))])) rfl (hb hby at_34) ?_
        show Steps p.tables e below (s₁.setTop (mkF m 37 #[.val (.long vx), .second, .val (.int vm), .unset, .unset, .val (.int (vm &&& (3 : Int32))), .unset, .unset] [(.long (9223372036854775807 : Int64)), (.long vx), (.long (300 : Int64))])) _
        refine XS.land X0.here hx rfl (hb hby at_37) rfl ?_
        show Steps p.tables e below (s₁.setTop (mkF m 38 #[.val (.long vx), .second, .val (.int vm), .unset, .unset, .val (.int (vm &&& (3 : Int32))), .unset, .unset] [(.long (vx &&& (9223372036854775807 : Int64))), (.long (300 : Int64))])) _
        refine X0.ldc2J hx hown (mvT hZ (hw _ (List.mem_of_getElem? (i := 2) rfl))) (g := (mkF m 38 #[.val (.long vx), .second, .val (.int vm), .unset, .unset, .val (.int (vm &&& (3 : Int32))), .unset, .unset] [(.long (vx &&& (9223372036854775807 : Int64))), (.long (300 : Int64))])) rfl (hb hby at_38) ?_
        show Steps p.tables e below (s₁.setTop (mkF m 41 #[.val (.long vx), .second, .val (.int vm), .unset, .unset, .val (.int (vm &&& (3 : Int32))), .unset, .unset] [(.long (86101 : Int64)), (.long (vx &&& (9223372036854775807 : Int64))), (.long (300 : Int64))])) _
        refine own_lremM X0 hx rfl (hb hby at_41) rfl (by decide) ?_
        show Steps p.tables e below (s₁.setTop (mkF m 42 #[.val (.long vx), .second, .val (.int vm), .unset, .unset, .val (.int (vm &&& (3 : Int32))), .unset, .unset] [(.long ((vx &&& (9223372036854775807 : Int64)) % (86101 : Int64))), (.long (300 : Int64))])) _
        refine XS.ladd X0.here hx rfl (hb hby at_42) rfl ?_
        show Steps p.tables e below (s₁.setTop (mkF m 43 #[.val (.long vx), .second, .val (.int vm), .unset, .unset, .val (.int (vm &&& (3 : Int32))), .unset, .unset] [(.long ((300 : Int64) + ((vx &&& (9223372036854775807 : Int64)) % (86101 : Int64))))])) _
        refine XS.lstoreN X0.here hx rfl (hb hby at_43) rfl (l' := #[.val (.long vx), .second, .val (.int vm), .val (.long ((300 : Int64) + ((vx &&& (9223372036854775807 : Int64)) % (86101 : Int64)))), .second, .val (.int (vm &&& (3 : Int32))), .unset, .unset]) rfl ?_
        show Steps p.tables e below (s₁.setTop (mkF m 44 #[.val (.long vx), .second, .val (.int vm), .val (.long ((300 : Int64) + ((vx &&& (9223372036854775807 : Int64)) % (86101 : Int64)))), .second, .val (.int (vm &&& (3 : Int32))), .unset, .unset] [])) _
        refine XS.lloadN X0.here hx rfl (hb hby at_44) rfl ?_
        show Steps p.tables e below (s₁.setTop (mkF m 45 #[.val (.long vx), .second, .val (.int vm), .val (.long ((300 : Int64) + ((vx &&& (9223372036854775807 : Int64)) % (86101 : Int64)))), .second, .val (.int (vm &&& (3 : Int32))), .unset, .unset] [(.long ((300 : Int64) + ((vx &&& (9223372036854775807 : Int64)) % (86101 : Int64))))])) _
        refine st7.trans ?_
        show Steps p.tables e below (T7.setTop (mkF m 48 #[.val (.long vx), .second, .val (.int vm), .val (.long ((300 : Int64) + ((vx &&& (9223372036854775807 : Int64)) % (86101 : Int64)))), .second, .val (.int (vm &&& (3 : Int32))), .unset, .unset] [(.long ((300 : Int64) + ((vx &&& (9223372036854775807 : Int64)) % (86101 : Int64))))])) _
        refine XS.lstore X7.here hx rfl (hb hby at_48) rfl (l' := #[.val (.long vx), .second, .val (.int vm), .val (.long ((300 : Int64) + ((vx &&& (9223372036854775807 : Int64)) % (86101 : Int64)))), .second, .val (.int (vm &&& (3 : Int32))), .val (.long ((300 : Int64) + ((vx &&& (9223372036854775807 : Int64)) % (86101 : Int64)))), .second]) rfl ?_
        show Steps p.tables e below (T7.setTop (mkF m 50 #[.val (.long vx), .second, .val (.int vm), .val (.long ((300 : Int64) + ((vx &&& (9223372036854775807 : Int64)) % (86101 : Int64)))), .second, .val (.int (vm &&& (3 : Int32))), .val (.long ((300 : Int64) + ((vx &&& (9223372036854775807 : Int64)) % (86101 : Int64)))), .second] [])) _
        refine XS.lload X7.here hx rfl (hb hby at_50) rfl ?_
        show Steps p.tables e below (T7.setTop (mkF m 52 #[.val (.long vx), .second, .val (.int vm), .val (.long ((300 : Int64) + ((vx &&& (9223372036854775807 : Int64)) % (86101 : Int64)))), .second, .val (.int (vm &&& (3 : Int32))), .val (.long ((300 : Int64) + ((vx &&& (9223372036854775807 : Int64)) % (86101 : Int64)))), .second] [(.long ((300 : Int64) + ((vx &&& (9223372036854775807 : Int64)) % (86101 : Int64))))])) _
        refine XS.lloadN X7.here hx rfl (hb hby at_52) rfl ?_
        show Steps p.tables e below (T7.setTop (mkF m 53 #[.val (.long vx), .second, .val (.int vm), .val (.long ((300 : Int64) + ((vx &&& (9223372036854775807 : Int64)) % (86101 : Int64)))), .second, .val (.int (vm &&& (3 : Int32))), .val (.long ((300 : Int64) + ((vx &&& (9223372036854775807 : Int64)) % (86101 : Int64)))), .second] [(.long ((300 : Int64) + ((vx &&& (9223372036854775807 : Int64)) % (86101 : Int64)))), (.long ((300 : Int64) + ((vx &&& (9223372036854775807 : Int64)) % (86101 : Int64))))])) _
        refine XS.lcmp X7.here hx rfl (hb hby at_53) rfl ?_
        show Steps p.tables e below (T7.setTop (mkF m 54 #[.val (.long vx), .second, .val (.int vm), .val (.long ((300 : Int64) + ((vx &&& (9223372036854775807 : Int64)) % (86101 : Int64)))), .second, .val (.int (vm &&& (3 : Int32))), .val (.long ((300 : Int64) + ((vx &&& (9223372036854775807 : Int64)) % (86101 : Int64)))), .second] [(.int (lcmpW ((300 : Int64) + ((vx &&& (9223372036854775807 : Int64)) % (86101 : Int64))) ((300 : Int64) + ((vx &&& (9223372036854775807 : Int64)) % (86101 : Int64)))))])) _
        refine XS.ifNo X7.here hx rfl (hb hby at_54) rfl ((if0 _ _).trans (teq (((lw_eq _ _).mpr rfl) : (lcmpW ((300 : Int64) + ((vx &&& (9223372036854775807 : Int64)) % (86101 : Int64))) ((300 : Int64) + ((vx &&& (9223372036854775807 : Int64)) % (86101 : Int64)))) = (0 : Int32))).2) ?_
        show Steps p.tables e below (T7.setTop (mkF m 57 #[.val (.long vx), .second, .val (.int vm), .val (.long ((300 : Int64) + ((vx &&& (9223372036854775807 : Int64)) % (86101 : Int64)))), .second, .val (.int (vm &&& (3 : Int32))), .val (.long ((300 : Int64) + ((vx &&& (9223372036854775807 : Int64)) % (86101 : Int64)))), .second] [])) _
        refine XS.iconst X7.here hx rfl (hb hby at_57) ?_
        show Steps p.tables e below (T7.setTop (mkF m 58 #[.val (.long vx), .second, .val (.int vm), .val (.long ((300 : Int64) + ((vx &&& (9223372036854775807 : Int64)) % (86101 : Int64)))), .second, .val (.int (vm &&& (3 : Int32))), .val (.long ((300 : Int64) + ((vx &&& (9223372036854775807 : Int64)) % (86101 : Int64)))), .second] [(.int (1 : Int32))])) _
        refine XS.goto X7.here hx rfl (pc0 := 58) (pc' := 62) rfl (hb hby at_58) (by decide) (by decide) ?_
        show Steps p.tables e below (T7.setTop (mkF m 62 #[.val (.long vx), .second, .val (.int vm), .val (.long ((300 : Int64) + ((vx &&& (9223372036854775807 : Int64)) % (86101 : Int64)))), .second, .val (.int (vm &&& (3 : Int32))), .val (.long ((300 : Int64) + ((vx &&& (9223372036854775807 : Int64)) % (86101 : Int64)))), .second] [(.int (1 : Int32))])) _
        exact retN X7 hx (t := .boolean) Bd.returns (by simp) (hb hby at_62) hr
      ·
        show Q0 Z vx vm h0 n0 _ T7.heap _
        exact ⟨rfl, N7⟩
set_option maxRecDepth 65536 in
set_option maxHeartbeats 40000000 in
theorem comes_1 {Post : Tables → Env → Array Value → State → Outcome → State → Prop} (hpost : ∀ tb e args s v u, (limb_1_1.after args s (.returned v) u = true ∧ limb_1_2.after args s (.returned v) u = true ∧ True) → ReturnedEndW s (.returned v) u (Jvm.fieldLocs frame_1_writes args s ++ Jvm.arrayLocs frame_1_arrays args s ++ Jvm.staticLocs frame_1_statics s) 8 1088 → Post tb e args s (.returned v) u) :
    ArmFor flags0 classFile x code maxLocals ret World_1 tables_1 room_1 Calls_1 rest_1 Pre_1 Post := by
  intro l hfl _ _ p e ha hc hk s m args below hf hA hF happ hP
  obtain ⟨hcalls, hrest, hpre⟩ := hP
  obtain ⟨-, -, -, hnamed, -, -, -, hat⟩ := (Spec.applies_iff hf).mp happ
  obtain ⟨hg, hn⟩ := and_e (Cond.before_iff.mp (show (Jvm.Cond.and given_1 narrow_1).before args s = true from hpre))
  obtain ⟨g1a, g1b⟩ := and_e hg
  obtain ⟨g2a, g2b⟩ := and_e g1b
  obtain ⟨w0, w1, rfl⟩ : ∃ w0 w1 : Value, args = #[w0, w1] := by
    have hs : args.size = 2 := by simpa [Cond.value, given_1] using g1a
    obtain ⟨L⟩ := args
    match L, hs with
    | [w0, w1], _ => exact ⟨w0, w1, rfl⟩
  have hw := fun d (hd : d ∈ tables_1) => atoms_spec (ws := Jvm.Cond.code x code maxLocals ret :: tables_1) hat d (List.mem_cons_of_mem _ hd)
  have hfit : Fit s := fun {y c} hc i hi => by
    obtain ⟨ha, rfl⟩ := Array.getElem?_eq_some_iff.mp hc
    have q := List.all_eq_true.mp ((Array.all_eq_true_iff_forall_mem.mp hF) _ (Array.getElem_mem ha)) i (List.mem_range.mpr hi)
    simpa [Array.getElem?_eq_getElem hi] using q
  obtain ⟨vx, ei0⟩ := isL_v g2a
  obtain rfl : w0 = (.long vx) := Option.some.inj ei0
  obtain ⟨vm, ei1⟩ := is_v g2b
  obtain rfl : w1 = (.int vm) := Option.some.inj ei1
  obtain ⟨n, o, h1, h2, h3, _, L, rfl, ⟨rfl, N⟩, hq⟩ := rm0 l s _ hw tables_1 vx vm  s.heap s.heap.size (Nat.le_refl _)  p e ha hc hk s m _ below hf ((Spec.applies_iff_loose hf).mp happ).1 ⟨rfl, State.Warmed39.refl s, rfl⟩ trivial
  refine ⟨n, _, h1, h2, h3, hpost _ _ _ _ _ _ ⟨Cond.after_iff.mpr rfl, Cond.after_iff.mpr (eq_i res_at (Term.int_eval (1)) rfl), trivial⟩ ⟨hq.1, hq.2.1, hq.2.2.1, (hq.2.2.2.sift fun y hy => Or.inr (N y hy)).mono (by decide) (by decide)⟩⟩
theorem main_1_1 : Claimed_1_1 := comes_1 fun _ _ _ _ _ _ h hF => ⟨h.1, hF⟩
theorem main_1_2 : Claimed_1_2 := comes_1 fun _ _ _ _ _ _ h hF => ⟨h.2.1, hF⟩
end Jvm.Pilot.@@N@@
namespace Jvm.Pilot.@@N@@
open Jvm Jvm.ClassFile Sem Op Lib Jvm.Free Jvm.Stand Jvm.Pilot.@@N@@.Jvm.D
/-! MADE BY PROGRAM (witnessworld.py) out of the Statement's table words and the real class files: 15 classes; the members and pool entries that the words name. The judged class is class 1, her method 1. -/
namespace start1
open Jvm.ClassFile
def u (s : String) : CpInfo := .utf8 (stringToUtf16 s)
/-- a pool by its gaps: so many unusable entries, then the entry; so many at the end -/
def gap : Nat → List CpInfo → List CpInfo
  | 0, r => r
  | n + 1, r => .unusable :: gap n r
def poolList (es : List (Nat × CpInfo)) (last : Nat) : List CpInfo := es.foldr (fun e r => gap e.1 (e.2 :: r)) (gap last [])
def pool (es : List (Nat × CpInfo)) (last : Nat) : Array CpInfo := ⟨poolList es last⟩
def fileOf (pool : Array CpInfo) (this : Nat) (attrs : Array Attribute := #[]) (ms : Array MethodInfo := #[]) (fl : Nat := 33) (sup : Nat := 0) (ifs : Array Nat := #[]) (fds : Array FieldInfo := #[]) : ClassFile where
  minorVersion := 0
  majorVersion := 65
  constantPool := pool
  accessFlags := fl
  thisClass := this
  superClass := sup
  interfaces := ifs
  fields := fds
  methods := ms
  attributes := attrs
def plain (name : String) (sup : Option ClassId) : Class where
  name := name
  kind := .ordinary
  loader := none
  accessFlags := 33
  super := sup
  interfaces := #[]
  cf := none
  fields := #[]
  methods := #[]
  instanceTypes := #[]
  staticTypes := #[]
  resolved := #[]
  callSites := []
  init := .initialized
  statics := none
  mirror := none

def pool0 : Array CpInfo := pool [(5, u "<init>"), (0, u "()V"), (1, .class_ 10), (1, u "java/lang/Object")] 113

def k0m0 : Method := { name := "<init>", desc := "()V", sig := { parameters := [], returnType := none }, accessFlags := 1, code := none }
/-- java/lang/Object -/
def k0 : Class := { plain "java/lang/Object" none with
  accessFlags := 33
  interfaces := #[]
  cf := some (fileOf pool0 8 #[] #[{ accessFlags := 1, nameIndex := 5, descriptorIndex := 6, attributes := #[] }] 33 0 #[] #[])
  fields := #[]
  methods := #[k0m0]
  instanceTypes := #[]
  staticTypes := #[]
  resolved := Array.replicate 124 none
  statics := none }

def pool1 : Array CpInfo := pool [(2, .class_ 4), (1, u "java/lang/Object"), (0, u "<init>"), (0, u "()V"), (0, .long 300), (1, .long 86400), (3, .long 9223372036854775807), (1, .long 86101), (1, .methodref 18 19), (0, .class_ 20), (0, .nameAndType 21 22), (0, u "com/example/hornbill/hornbill/model/AccessRenewal"), (0, u "checkExtension"), (0, u "(J)J"), (0, .class_ 24), (0, u "com/example/hornbill/hornbill/model/AccessRenewalCheckExtensionPinLaw"), (2, u "law"), (0, u "(JI)Z")] 3

def k1m0 : Method := { name := "<init>", desc := "()V", sig := { parameters := [], returnType := none }, accessFlags := 1, code := none }
def k1c1 : Code := { maxStack := 6, maxLocals := 8, code := code, exceptionTable := #[], attributes := #[] }
def k1m1 : Method := { name := "law", desc := "(JI)Z", sig := { parameters := [.long, .int], returnType := some .boolean }, accessFlags := 9, code := some k1c1 }
/-- com/example/hornbill/hornbill/model/AccessRenewalCheckExtensionPinLaw -/
def k1 : Class := { plain "com/example/hornbill/hornbill/model/AccessRenewalCheckExtensionPinLaw" (some 0) with
  accessFlags := 49
  interfaces := #[]
  cf := some (fileOf pool1 23 #[] #[{ accessFlags := 1, nameIndex := 5, descriptorIndex := 6, attributes := #[] }, { accessFlags := 9, nameIndex := 27, descriptorIndex := 28, attributes := #[] }] 49 2 #[] #[])
  fields := #[]
  methods := #[k1m0, k1m1]
  instanceTypes := #[]
  staticTypes := #[]
  resolved := Array.replicate 32 none
  statics := none }

def pool2 : Array CpInfo := pool [(2, .class_ 4), (1, u "java/lang/Object"), (0, u "<init>"), (0, u "()V"), (0, .class_ 8), (0, u "java/lang/Record")] 13

def k2m0 : Method := { name := "<init>", desc := "()V", sig := { parameters := [], returnType := none }, accessFlags := 4, code := none }
/-- java/lang/Record -/
def k2 : Class := { plain "java/lang/Record" (some 0) with
  accessFlags := 1057
  interfaces := #[]
  cf := some (fileOf pool2 7 #[] #[{ accessFlags := 4, nameIndex := 5, descriptorIndex := 6, attributes := #[] }] 1057 2 #[] #[])
  fields := #[]
  methods := #[k2m0]
  instanceTypes := #[]
  staticTypes := #[]
  resolved := Array.replicate 22 none
  statics := none }

def pool3 : Array CpInfo := pool [(2, .class_ 4), (1, u "java/lang/Record"), (3, .class_ 10), (1, u "com/example/hornbill/hornbill/model/AccessRenewal"), (0, u "checkExtension"), (0, u "(J)J"), (5, u "extensionSeconds"), (0, u "J"), (2, u "cooldownSeconds"), (7, .string 31), (0, u "an access extension"), (0, .long 300), (1, .long 86400), (1, .methodref 8 37), (0, .nameAndType 38 39), (0, u "check"), (0, u "(Ljava/lang/String;JJJ)J"), (37, u "MIN_EXTENSION_SECONDS"), (1, u "MAX_EXTENSION_SECONDS"), (0, u "MIN_COOLDOWN_SECONDS"), (2, u "MAX_COOLDOWN_SECONDS"), (0, u "DEFAULT_COOLDOWN_SECONDS")] 32

def k3c0 : Code := { maxStack := 7, maxLocals := 2, code := prog_9_method_5_code, exceptionTable := #[], attributes := #[] }
def k3m0 : Method := { name := "checkExtension", desc := "(J)J", sig := { parameters := [.long], returnType := some .long }, accessFlags := 9, code := some k3c0 }
def k3c1 : Code := { maxStack := 8, maxLocals := 7, code := prog_9_method_7_code, exceptionTable := #[], attributes := #[] }
def k3m1 : Method := { name := "check", desc := "(Ljava/lang/String;JJJ)J", sig := { parameters := [(.object "java/lang/String"), .long, .long, .long], returnType := some .long }, accessFlags := 10, code := some k3c1 }
/-- com/example/hornbill/hornbill/model/AccessRenewal -/
def k3 : Class := { plain "com/example/hornbill/hornbill/model/AccessRenewal" (some 2) with
  accessFlags := 49
  interfaces := #[]
  cf := some (fileOf pool3 8 #[] #[{ accessFlags := 9, nameIndex := 11, descriptorIndex := 12, attributes := #[] }, { accessFlags := 10, nameIndex := 38, descriptorIndex := 39, attributes := #[] }] 49 2 #[] #[{ accessFlags := 18, nameIndex := 18, descriptorIndex := 19, attributes := #[] }, { accessFlags := 18, nameIndex := 22, descriptorIndex := 19, attributes := #[] }, { accessFlags := 25, nameIndex := 77, descriptorIndex := 19, attributes := #[] }, { accessFlags := 25, nameIndex := 79, descriptorIndex := 19, attributes := #[] }, { accessFlags := 25, nameIndex := 80, descriptorIndex := 19, attributes := #[] }, { accessFlags := 25, nameIndex := 83, descriptorIndex := 19, attributes := #[] }, { accessFlags := 25, nameIndex := 84, descriptorIndex := 19, attributes := #[] }])
  fields := #[{ name := "extensionSeconds", type := .long, accessFlags := 18, slot := 0, constantValue := 0 }, { name := "cooldownSeconds", type := .long, accessFlags := 18, slot := 1, constantValue := 0 }, { name := "MIN_EXTENSION_SECONDS", type := .long, accessFlags := 25, slot := 0, constantValue := 0 }, { name := "MAX_EXTENSION_SECONDS", type := .long, accessFlags := 25, slot := 1, constantValue := 0 }, { name := "MIN_COOLDOWN_SECONDS", type := .long, accessFlags := 25, slot := 2, constantValue := 0 }, { name := "MAX_COOLDOWN_SECONDS", type := .long, accessFlags := 25, slot := 3, constantValue := 0 }, { name := "DEFAULT_COOLDOWN_SECONDS", type := .long, accessFlags := 25, slot := 4, constantValue := 0 }]
  methods := #[k3m0, k3m1]
  instanceTypes := #[.long, .long]
  staticTypes := #[.long, .long, .long, .long, .long]
  resolved := Array.replicate 117 none
  statics := none }

def pool4 : Array CpInfo := pool [(1, .class_ 2), (0, u "java/io/Serializable"), (0, .class_ 4), (0, u "java/lang/Object")] 2

/-- java/io/Serializable -/
def k4 : Class := { plain "java/io/Serializable" (some 0) with
  accessFlags := 1537
  interfaces := #[]
  cf := some (fileOf pool4 1 #[] #[] 1537 3 #[] #[])
  fields := #[]
  methods := #[]
  instanceTypes := #[]
  staticTypes := #[]
  resolved := Array.replicate 7 none
  statics := none }

def pool5 : Array CpInfo := pool [(1, .class_ 2), (0, u "java/lang/Comparable"), (0, .class_ 4), (0, u "java/lang/Object")] 7

/-- java/lang/Comparable -/
def k5 : Class := { plain "java/lang/Comparable" (some 0) with
  accessFlags := 1537
  interfaces := #[]
  cf := some (fileOf pool5 1 #[] #[] 1537 3 #[] #[])
  fields := #[]
  methods := #[]
  instanceTypes := #[]
  staticTypes := #[]
  resolved := Array.replicate 12 none
  statics := none }

def pool6 : Array CpInfo := pool [(2, .class_ 4), (1, u "java/lang/CharSequence"), (42, .class_ 48), (0, u "java/lang/CharSequence$1CodePointIterator"), (10, .class_ 60), (0, u "java/lang/CharSequence$1CharIterator"), (5, .class_ 67), (0, u "java/lang/Object")] 63

/-- java/lang/CharSequence -/
def k6 : Class := { plain "java/lang/CharSequence" (some 0) with
  accessFlags := 1537
  interfaces := #[]
  cf := some (fileOf pool6 2 #[.nestMembers #[47, 59]] #[] 1537 66 #[] #[])
  fields := #[]
  methods := #[]
  instanceTypes := #[]
  staticTypes := #[]
  resolved := Array.replicate 131 none
  statics := none }

def pool7 : Array CpInfo := pool [(1, .class_ 2), (0, u "java/lang/constant/Constable"), (0, .class_ 4), (0, u "java/lang/Object")] 6

/-- java/lang/constant/Constable -/
def k7 : Class := { plain "java/lang/constant/Constable" (some 0) with
  accessFlags := 1537
  interfaces := #[]
  cf := some (fileOf pool7 1 #[] #[] 1537 3 #[] #[])
  fields := #[]
  methods := #[]
  instanceTypes := #[]
  staticTypes := #[]
  resolved := Array.replicate 11 none
  statics := none }

def pool8 : Array CpInfo := pool [(1, .class_ 2), (0, u "java/lang/constant/ConstantDesc"), (0, .class_ 4), (0, u "java/lang/Object")] 32

/-- java/lang/constant/ConstantDesc -/
def k8 : Class := { plain "java/lang/constant/ConstantDesc" (some 0) with
  accessFlags := 1537
  interfaces := #[]
  cf := some (fileOf pool8 1 #[] #[] 1537 3 #[] #[])
  fields := #[]
  methods := #[]
  instanceTypes := #[]
  staticTypes := #[]
  resolved := Array.replicate 37 none
  statics := none }

def pool9 : Array CpInfo := pool [(2, .class_ 4), (1, u "java/lang/Object"), (0, u "<init>"), (0, u "()V"), (3, .class_ 12), (1, u "java/lang/String"), (0, u "value"), (0, u "[B"), (2, u "coder"), (0, u "B"), (2, u "hash"), (0, u "I"), (2, u "hashIsZero"), (0, u "Z"), (13, u "COMPACT_STRINGS"), (534, .class_ 576), (0, u "java/lang/CharSequence"), (22, u "CASE_INSENSITIVE_ORDER"), (0, u "Ljava/util/Comparator;"), (500, u "serialPersistentFields"), (0, u "[Ljava/io/ObjectStreamField;"), (0, .class_ 1104), (0, u "java/lang/String$CaseInsensitiveComparator"), (1, .class_ 1107), (0, u "java/io/Serializable"), (0, .class_ 1109), (0, u "java/lang/Comparable"), (0, .class_ 1111), (0, u "java/lang/constant/Constable"), (0, .class_ 1113), (0, u "java/lang/constant/ConstantDesc"), (2, u "serialVersionUID"), (0, u "J"), (3, u "REPL"), (0, u "C"), (2, u "LATIN1"), (1, u "UTF16")] 323

def k9m0 : Method := { name := "<init>", desc := "()V", sig := { parameters := [], returnType := none }, accessFlags := 1, code := none }
/-- java/lang/String -/
def k9 : Class := { plain "java/lang/String" (some 0) with
  accessFlags := 49
  interfaces := #[4, 5, 6, 7, 8]
  cf := some (fileOf pool9 10 #[.nestMembers #[1103]] #[{ accessFlags := 1, nameIndex := 5, descriptorIndex := 6, attributes := #[] }] 49 2 #[1106, 1108, 575, 1110, 1112] #[{ accessFlags := 18, nameIndex := 13, descriptorIndex := 14, attributes := #[] }, { accessFlags := 18, nameIndex := 17, descriptorIndex := 18, attributes := #[] }, { accessFlags := 2, nameIndex := 21, descriptorIndex := 22, attributes := #[] }, { accessFlags := 2, nameIndex := 25, descriptorIndex := 26, attributes := #[] }, { accessFlags := 26, nameIndex := 1116, descriptorIndex := 1117, attributes := #[] }, { accessFlags := 24, nameIndex := 40, descriptorIndex := 26, attributes := #[] }, { accessFlags := 26, nameIndex := 1101, descriptorIndex := 1102, attributes := #[] }, { accessFlags := 26, nameIndex := 1121, descriptorIndex := 1122, attributes := #[] }, { accessFlags := 25, nameIndex := 599, descriptorIndex := 600, attributes := #[] }, { accessFlags := 24, nameIndex := 1125, descriptorIndex := 18, attributes := #[] }, { accessFlags := 24, nameIndex := 1127, descriptorIndex := 18, attributes := #[] }])
  fields := #[{ name := "value", type := (.array .byte), accessFlags := 18, slot := 0, constantValue := 0 }, { name := "coder", type := .byte, accessFlags := 18, slot := 1, constantValue := 0 }, { name := "hash", type := .int, accessFlags := 2, slot := 2, constantValue := 0 }, { name := "hashIsZero", type := .boolean, accessFlags := 2, slot := 3, constantValue := 0 }, { name := "serialVersionUID", type := .long, accessFlags := 26, slot := 0, constantValue := 0 }, { name := "COMPACT_STRINGS", type := .boolean, accessFlags := 24, slot := 1, constantValue := 0 }, { name := "serialPersistentFields", type := (.array (.object "java/io/ObjectStreamField")), accessFlags := 26, slot := 2, constantValue := 0 }, { name := "REPL", type := .char, accessFlags := 26, slot := 3, constantValue := 0 }, { name := "CASE_INSENSITIVE_ORDER", type := (.object "java/util/Comparator"), accessFlags := 25, slot := 4, constantValue := 0 }, { name := "LATIN1", type := .byte, accessFlags := 24, slot := 5, constantValue := 0 }, { name := "UTF16", type := .byte, accessFlags := 24, slot := 6, constantValue := 0 }]
  methods := #[k9m0]
  instanceTypes := #[(.array .byte), .byte, .int, .boolean]
  staticTypes := #[.long, .boolean, (.array (.object "java/io/ObjectStreamField")), .char, (.object "java/util/Comparator"), .byte, .byte]
  resolved := Array.replicate 1451 none
  statics := none }

def pool10 : Array CpInfo := pool [(1, u "java/lang/Cloneable"), (0, .class_ 1), (0, u "java/lang/Object"), (0, .class_ 3)] 3

/-- java/lang/Cloneable -/
def k10 : Class := { plain "java/lang/Cloneable" (some 0) with
  accessFlags := 1537
  interfaces := #[]
  cf := some (fileOf pool10 2 #[] #[] 1537 4 #[] #[])
  fields := #[]
  methods := #[]
  instanceTypes := #[]
  staticTypes := #[]
  resolved := Array.replicate 8 none
  statics := none }

/-- the primitive byte -/
def k11 : Class := { plain "byte" none with kind := .primitive 'B', accessFlags := 0x411 }
/-- [B -/
def k12 : Class := { plain "[B" (some 0) with kind := .array 11 .byte, interfaces := #[10, 4], accessFlags := 1041 }

/-- the primitive int -/
def k13 : Class := { plain "int" none with kind := .primitive 'I', accessFlags := 0x411 }
/-- [I -/
def k14 : Class := { plain "[I" (some 0) with kind := .array 13 .int, interfaces := #[10, 4], accessFlags := 1041 }

def heap : Heap := #[]
def classes : Array Class := #[k0, k1, k2, k3, k4, k5, k6, k7, k8, k9, k10, k11, k12, k13, k14]
def interned : List (Array UInt16 × Addr) := []
def slotsUsed : Nat := 0
def theMethod : MethodId := ⟨1, 1⟩
def args0 : Array Value := #[.long 5, .int 2]
def aboutOver (below : List Frame) : State where
  vm := { classes := classes, interned := interned.toArray }
  heap := heap
  slotsUsed := slotsUsed
  threads := #[{ frames := .invoking theMethod args0 :: below }]
def below0 : List Frame := [.native { method := ⟨0, 0⟩, args := #[] }]
def about1 : State := aboutOver below0
def p0 : Program := .bare "" "" ""
def e0 : Env := launch0.env 0 0 0
theorem w_frames : about1.frames = Frame.invoking theMethod args0 :: below0 := rfl
set_option maxRecDepth 65536 in
theorem w_args : argsFit about1.vm theMethod args0 = true := by decide +kernel
set_option maxRecDepth 65536 in
theorem w_heap : heapFits about1 = true := by decide +kernel
set_option maxRecDepth 65536 in
theorem w_runnable : about1.curStatus? = some .runnable := by decide +kernel
set_option maxRecDepth 65536 in
theorem w_alone : about1.alone = true := by decide +kernel
set_option maxRecDepth 65536 in
theorem w_named : about1.methodNamed? x = some theMethod := by decide +kernel
set_option maxRecDepth 65536 in
theorem w_hears : about1.hears theMethod below0 = true := by decide +kernel
set_option maxRecDepth 65536 in
theorem w_ripe : about1.ripe theMethod args0 below0 = true := by decide +kernel
theorem w_running : about1.status = .running := rfl
set_option maxRecDepth 65536 in
theorem w_room : about1.hasRoom e0.platform room_1 = true :=
  launch0.hasRoom_least _ room_1 (by decide +kernel) (by decide +kernel) (by decide +kernel) (by decide +kernel) (by decide +kernel) (by decide +kernel)
theorem allAtoms_all (ts : List Jvm.Cond) (a : Array Jvm.Value) (st : Jvm.State) : (allAtoms ts).before a st = ts.all (fun c => c.before a st) := by
  induction ts with
  | nil => rfl
  | cons c t ih =>
    show (Jvm.Cond.and c (allAtoms t)).before a st = _
    rw [Jvm.Cond.before_and, ih, List.all_cons]
def words1 : List Jvm.Cond := Jvm.Cond.code x code maxLocals ret :: tables_1
/-- a 'code' word, met by the world's own term for the bytes: nothing is compared byte by byte -/
theorem code_word {y : MethodName} {bytes : ByteArray} {mx : Nat} {rt : Option FieldType} {a : Array Value} {s : State} {m : MethodId} {meth : Method} {c : Code} (h1 : s.methodNamed? y = some m) (h2 : s.vm.method? m = some meth) (h3 : meth.code = some c) (h4 : c.code = bytes)
    (h5 : (c.maxLocals == mx && c.exceptionTable.isEmpty && decide (c.maxStack ≤ mostOperands) && decide (meth.sig.returnType = rt) && !meth.locks && decide (parseMethodDescriptor y.desc = some meth.sig)) = true) : (Jvm.Cond.code y bytes mx rt).before a s = true := by
  simp only [Bool.and_eq_true, beq_iff_eq, Bool.not_eq_true', decide_eq_true_eq] at h5
  obtain ⟨⟨⟨⟨⟨g1, g2⟩, g3⟩, g4⟩, g5⟩, g6⟩ := h5
  simp [Cond.before, Cond.holds, Cond.value, h1, h2, h3, h4, g1, g2, g3, g4, g5, g6]
def isCode : Jvm.Cond → Bool
  | .code _ _ _ _ => true
  | _ => false
theorem all_split {L : List Jvm.Cond} {P : Jvm.Cond → Bool} (h1 : L.all (fun c => isCode c || P c) = true) (h2 : ∀ c ∈ L.filter isCode, P c = true) : L.all P = true := by
  refine List.all_eq_true.mpr fun c hc => ?_
  have h := List.all_eq_true.mp h1 c hc
  rcases Bool.eq_false_or_eq_true (isCode c) with hi | hi
  · exact h2 c (List.mem_filter.mpr ⟨hc, hi⟩)
  · simpa [hi] using h
set_option maxRecDepth 65536 in
theorem w_c0 : (Jvm.Cond.code x code maxLocals ret).before args0 about1 = true := code_word (m := ⟨1, 1⟩) (meth := k1m1) (c := k1c1) (by decide +kernel) rfl rfl rfl (by decide +kernel)
set_option maxRecDepth 65536 in
theorem w_c1 : (Jvm.Cond.code ({ cls := "com/example/hornbill/hornbill/model/AccessRenewal", name := "checkExtension", desc := "(J)J" } : Jvm.MethodName) prog_9_method_5_code (2 : Nat) (Option.some Jvm.ClassFile.FieldType.long)).before args0 about1 = true := code_word (m := ⟨3, 0⟩) (meth := k3m0) (c := k3c0) (by decide +kernel) rfl rfl rfl (by decide +kernel)
set_option maxRecDepth 65536 in
theorem w_c2 : (Jvm.Cond.code ({ cls := "com/example/hornbill/hornbill/model/AccessRenewal", name := "check", desc := "(Ljava/lang/String;JJJ)J" } : Jvm.MethodName) prog_9_method_7_code (7 : Nat) (Option.some Jvm.ClassFile.FieldType.long)).before args0 about1 = true := code_word (m := ⟨3, 1⟩) (meth := k3m1) (c := k3c1) (by decide +kernel) rfl rfl rfl (by decide +kernel)
def codes1 : List Jvm.Cond := [Jvm.Cond.code x code maxLocals ret, Jvm.Cond.code ({ cls := "com/example/hornbill/hornbill/model/AccessRenewal", name := "checkExtension", desc := "(J)J" } : Jvm.MethodName) prog_9_method_5_code (2 : Nat) (Option.some Jvm.ClassFile.FieldType.long), Jvm.Cond.code ({ cls := "com/example/hornbill/hornbill/model/AccessRenewal", name := "check", desc := "(Ljava/lang/String;JJJ)J" } : Jvm.MethodName) prog_9_method_7_code (7 : Nat) (Option.some Jvm.ClassFile.FieldType.long)]
set_option maxRecDepth 65536 in
theorem codes_eq : words1.filter isCode = codes1 := rfl
theorem w_codes : ∀ c ∈ words1.filter isCode, c.before args0 about1 = true := by
  rw [codes_eq]
  intro c hc
  simp only [codes1, List.mem_cons, List.not_mem_nil, or_false] at hc
  rcases hc with rfl | rfl | rfl
  · exact w_c0
  · exact w_c1
  · exact w_c2
set_option maxRecDepth 65536 in
theorem w_t1 : words1.all (fun c => isCode c || c.before args0 about1) = true := by decide +kernel
theorem w_tables : (allAtoms (Jvm.Cond.code x code maxLocals ret :: tables_1)).before args0 about1 = true := by
  rw [allAtoms_all]
  show words1.all (fun c => c.before args0 about1) = true
  refine all_split ?_ w_codes
  rw [w_t1]
set_option maxRecDepth 65536 in
theorem w_case : (Jvm.Cond.and given_1 narrow_1).before args0 about1 = true := by decide +kernel
theorem w_applies : (headSpec (Jvm.Cond.code x code maxLocals ret :: tables_1) room_1).applies x e0.platform about1 = true :=
  (Spec.applies_iff w_frames).mpr ⟨w_running, w_runnable, w_alone, w_named, w_hears, w_ripe, w_room, w_tables⟩
theorem atStart : AtStart classFile x code maxLocals ret World_1 tables_1 room_1 Calls_1 rest_1 Pre_1 launch0 p0 e0 about1 theMethod args0 below0 :=
  ⟨lists_1, trivial, launch0.admits_env _ _ _, launch0.least_env, fairChoices_fair.cas, fairChoices_fair.clock, w_frames, w_args, w_heap, w_applies, trivial, trivial, w_case⟩
end start1
theorem witness_1 : WitnessClaimed_1 := ⟨start1.p0, start1.e0, start1.about1, start1.theMethod, start1.args0, start1.below0, start1.atStart⟩
end Jvm.Pilot.@@N@@
