import JvmDerived
import JvmDerived.Pilot.@@N@@Statement
import JvmDerived.Pilot.@@N@@Code
set_option linter.unusedVariables false
set_option linter.unusedSimpArgs false
namespace Jvm.RoadKit
open Sem ClassFile Op Lib Jvm.Stand Jvm.Free Jvm.LawKit
theorem own_lrem_eq (x y : Int64) : x - x / y * y = x % y := by
  have h1 := Int64.le_toInt (x % y)
  have h2 := Int64.toInt_lt (x % y)
  have h3 : x.toInt - x.toInt.tdiv y.toInt * y.toInt = (x % y).toInt := by
    rw [Int64.toInt_mod, Int.mul_comm, ← Int.tmod_def]
  apply Int64.toInt_inj.mp
  rw [Int64.toInt_sub, Int64.toInt_mul, Int64.toInt_div, Int.bmod_mul_bmod, Int.sub_bmod_bmod, h3]
  exact Int.bmod_eq_of_le_mul_two (by omega) (by omega)
theorem own_lremM {p : Program} {l : Launch} {e : Env} {R : Room} {s : State} {m : MethodId} {args : Array Value} {below : List Frame} {meth : Method} {c : Code} {T : State} {locs : List Loc} {cells slots : Nat} {g : JFrame} {target : State} (X : Stand p l e R s m args below meth c T locs cells slots) (hx : p.tables.exec = Jvm.exec) (hg : g.method = m) {x y : Int64} {rest : List Value} (hd : decode c.code g.pc = .ok (.lrem, 1)) (hs : g.stack = .long y :: .long x :: rest) (hy : y ≠ 0)
    (hr : Steps p.tables e below (T.setTop { g with pc := g.pc + 1, stack := .long (x % y) :: rest }) target) : Steps p.tables e below (T.setTop g) target :=
  XS.lrem X.here hx hg hd hs hy (by rw [own_lrem_eq x y]; exact hr)
end Jvm.RoadKit
namespace Jvm.Pilot.@@N@@
open Jvm Jvm.ClassFile Sem Op Lib Jvm.Free Jvm.Stand Jvm.LawKit Jvm.RoadKit Bundle Jvm.Pilot.@@N@@.Jvm.D
theorem own_sta_keep {Z : State} {h h' : Heap} {C n d : String} {v : Value} (F : Sta Z h C n d v) (K : Keep h h' []) : Sta Z h' C n d v := by
  obtain ⟨cf, i, k, f, st, cell, h1, h2, h3, h4, h5, r⟩ := F
  exact ⟨cf, i, k, f, st, cell, h1, h2, h3, h4, K.2.1 _ _ h5 nin0, r⟩
theorem d1_0 : decode method_2_code 0 = .ok (.lconst 1, 1) := by decide +kernel
theorem d1_1 : decode method_2_code 1 = .ok (.iload_n 0, 1) := by decide +kernel
theorem d1_2 : decode method_2_code 2 = .ok (.lshl, 1) := by decide +kernel
theorem d1_3 : decode method_2_code 3 = .ok (.lconst 1, 1) := by decide +kernel
theorem d1_4 : decode method_2_code 4 = .ok (.lsub, 1) := by decide +kernel
theorem d1_5 : decode method_2_code 5 = .ok (.lreturn, 1) := by decide +kernel
theorem pn_6 : plainName "com/example/causeline/causeline/core/BitWriterDigitsPinLaw" = true := by first | (simp [plainName, overriddenIn]; done) | decide +kernel
theorem ef_rm1 (m : MethodId) (x0 : Int32) : entryFrame m #[(.int x0)] 1 = mkF m 0 #[.val (.int x0)] [] := by first | (simp [entryFrame, mkF, argsToLocals, Value.category]; done) | rfl
def own_mask (vc : Int32) : Int64 := (((1 : Int64) <<< (vc &&& 0x3f).toInt64) - (1 : Int64))
def Q1 (Z : State) (vc : Int32) (h0 : Heap) (n0 : Nat) (v : Option Value) (h : Heap) (L : List Loc) : Prop := v = some (.long (own_mask vc)) ∧ Fr n0 L ∧ h = h0
set_option maxRecDepth 65536 in
set_option maxHeartbeats 40000000 in
theorem rm1 (l : Launch) (Z : State) (a0 : Array Value) (hw : ∀ d ∈ tables_1, d.before a0 Z = true) (ws : List Jvm.Cond) (vc : Int32) (h0 : Heap) (n0 : Nat) (Z0 : n0 ≤ h0.size) :
    MetFree l (⟨"com/example/causeline/causeline/core/BitWriterDigitsPinLaw", "mask", "(I)J"⟩ : MethodName) (head1 (Jvm.Cond.code (⟨"com/example/causeline/causeline/core/BitWriterDigitsPinLaw", "mask", "(I)J"⟩ : MethodName) method_2_code 1 (some .long) :: ws) ({ frames := 0, cells := 0, slots := 0, locals := 0 } : Room)) (fun a U => a = #[(.int vc)] ∧ Z.Warmed39 U.vm ∧ U.heap = h0) (fun _ _ _ _ _ => True) (fun _ U o U' => ∃ v L, o = .returned v ∧ Q1 Z vc h0 n0 v U'.heap L ∧ FrameEnd U o U' L ({ frames := 0, cells := 0, slots := 0, locals := 0 } : Room).cells ({ frames := 0, cells := 0, slots := 0, locals := 0 } : Room).slots) := by
  refine MetFree.of_bodySF (plainFor_of_name pn_6) hisR ?_
  intro p e s m args below meth c s₁ Bd hml0 hP hK
  obtain ⟨rfl, hZ, hh⟩ := hP
  have hx := Bd.exec
  have hby := Bd.bytes
  have hml : c.maxLocals = 1 := hml0
  have hown : s.vm.findClass "com/example/causeline/causeline/core/BitWriterDigitsPinLaw" = some m.cls := findClass_of_methodNamed Bd.named
  have hnm := (name_of_methodNamed Bd.named Bd.method).1
  have X0 : Stand p l e ({ frames := 0, cells := 0, slots := 0, locals := 0 } : Room) s m #[(.int vc)] below meth c s₁ [] 0 0 := Stand.of_body Bd
  have e0 : s₁.heap = h0 := by rw [← hh, Bd.state]; rfl
  have N0 := Fr.nil n0
  have pre0 : ∀ t, Steps p.tables e below (s₁.setTop (mkF m 0 #[.val (.int vc)] [])) t → Steps p.tables e below (s₁.setTop (entryFrame m #[(.int vc)] 1)) t := fun t k => castTop (ef_rm1 m vc) k
  obtain ⟨fs, hr, hrun, hended, hW, hsame⟩ := X0.leave (v := some (.long (((1 : Int64) <<< (vc &&& 0x3f).toInt64) - (1 : Int64)))) (fun h => by rw [Bd.returns] at h; cases h)
  refine ⟨_, _, pre0 _ ?_, hrun, hended, _, _, rfl, ?_, ⟨_, rfl⟩, hW, hsame.mono (by decide) (by decide)⟩
  ·
    show Steps p.tables e below (s₁.setTop (mkF m 0 #[.val (.int vc)] [])) _
    refine XS.lconst X0.here hx rfl (hb hby d1_0) ?_
    show Steps p.tables e below (s₁.setTop (mkF m 1 #[.val (.int vc)] [(.long (1 : Int64))])) _
    refine XS.iloadN X0.here hx rfl (hb hby d1_1) rfl ?_
    show Steps p.tables e below (s₁.setTop (mkF m 2 #[.val (.int vc)] [(.int vc), (.long (1 : Int64))])) _
    refine XS.lshl X0.here hx rfl (hb hby d1_2) rfl ?_
    show Steps p.tables e below (s₁.setTop (mkF m 3 #[.val (.int vc)] [(.long ((1 : Int64) <<< (vc &&& 0x3f).toInt64))])) _
    refine XS.lconst X0.here hx rfl (hb hby d1_3) ?_
    show Steps p.tables e below (s₁.setTop (mkF m 4 #[.val (.int vc)] [(.long (1 : Int64)), (.long ((1 : Int64) <<< (vc &&& 0x3f).toInt64))])) _
    refine XS.lsub X0.here hx rfl (hb hby d1_4) rfl ?_
    show Steps p.tables e below (s₁.setTop (mkF m 5 #[.val (.int vc)] [(.long (((1 : Int64) <<< (vc &&& 0x3f).toInt64) - (1 : Int64)))])) _
    exact retOut X0 hx (t := .long) (i := .lreturn) Bd.returns rfl (Or.inr (Or.inl ⟨rfl, rfl, _, rfl⟩)) (hb hby d1_5) hr
  ·
    show Q1 Z vc h0 n0 _ s₁.heap _
    rw [e0]
    have hv : (((1 : Int64) <<< (vc &&& 0x3f).toInt64) - (1 : Int64)) = (own_mask vc) := by rw [own_mask]
    exact ⟨(congrArg (fun z => some (Value.long z)) hv), N0, rfl⟩
theorem d2_0 : decode method_3_code 0 = .ok (.bipush 64, 2) := by decide +kernel
theorem d2_2 : decode method_3_code 2 = .ok (.iload_n 2, 1) := by decide +kernel
theorem d2_3 : decode method_3_code 3 = .ok (.isub, 1) := by decide +kernel
theorem d2_4 : decode method_3_code 4 = .ok (.istore_n 3, 1) := by decide +kernel
theorem d2_5 : decode method_3_code 5 = .ok (.iload_n 3, 1) := by decide +kernel
theorem d2_6 : decode method_3_code 6 = .ok (.bipush 64, 2) := by decide +kernel
theorem d2_8 : decode method_3_code 8 = .ok (.if_icmp .lt 5, 3) := by decide +kernel
theorem d2_13 : decode method_3_code 13 = .ok (.iload_n 3, 1) := by decide +kernel
theorem d2_14 : decode method_3_code 14 = .ok (.ifCond .lt 7, 3) := by decide +kernel
theorem d2_21 : decode method_3_code 21 = .ok (.lload_n 0, 1) := by decide +kernel
theorem d2_22 : decode method_3_code 22 = .ok (.iload_n 3, 1) := by decide +kernel
theorem d2_23 : decode method_3_code 23 = .ok (.ineg, 1) := by decide +kernel
theorem d2_24 : decode method_3_code 24 = .ok (.lushr, 1) := by decide +kernel
theorem d2_25 : decode method_3_code 25 = .ok (.lreturn, 1) := by decide +kernel
theorem d2_17 : decode method_3_code 17 = .ok (.lload_n 0, 1) := by decide +kernel
theorem d2_18 : decode method_3_code 18 = .ok (.iload_n 3, 1) := by decide +kernel
theorem d2_19 : decode method_3_code 19 = .ok (.lshl, 1) := by decide +kernel
theorem d2_20 : decode method_3_code 20 = .ok (.lreturn, 1) := by decide +kernel
theorem d2_11 : decode method_3_code 11 = .ok (.lconst 0, 1) := by decide +kernel
theorem d2_12 : decode method_3_code 12 = .ok (.lreturn, 1) := by decide +kernel
theorem ef_rm2 (m : MethodId) (x0 : Int64) (x1 : Int32) : entryFrame m #[(.long x0), (.int x1)] 4 = mkF m 0 #[.val (.long x0), .second, .val (.int x1), .unset] [] := by first | (simp [entryFrame, mkF, argsToLocals, Value.category]; done) | rfl
def own_hi (vv : Int64) (vn : Int32) : Int64 := (if ((64 : Int32) - vn) < (64 : Int32) then (if ((64 : Int32) - vn) < (0 : Int32) then ((vv.toUInt64 >>> ((-((64 : Int32) - vn)) &&& 0x3f).toInt64.toUInt64).toInt64) else (vv <<< (((64 : Int32) - vn) &&& 0x3f).toInt64)) else (0 : Int64))
def Q2 (Z : State) (vv : Int64) (vn : Int32) (h0 : Heap) (n0 : Nat) (v : Option Value) (h : Heap) (L : List Loc) : Prop := v = some (.long (own_hi vv vn)) ∧ Fr n0 L ∧ h = h0
set_option maxRecDepth 65536 in
set_option maxHeartbeats 40000000 in
theorem rm2 (l : Launch) (Z : State) (a0 : Array Value) (hw : ∀ d ∈ tables_1, d.before a0 Z = true) (ws : List Jvm.Cond) (vv : Int64) (vn : Int32) (h0 : Heap) (n0 : Nat) (Z0 : n0 ≤ h0.size) :
    MetFree l (⟨"com/example/causeline/causeline/core/BitWriterDigitsPinLaw", "hiOf", "(JI)J"⟩ : MethodName) (head1 (Jvm.Cond.code (⟨"com/example/causeline/causeline/core/BitWriterDigitsPinLaw", "hiOf", "(JI)J"⟩ : MethodName) method_3_code 4 (some .long) :: ws) ({ frames := 0, cells := 0, slots := 0, locals := 0 } : Room)) (fun a U => a = #[(.long vv), (.int vn)] ∧ Z.Warmed39 U.vm ∧ U.heap = h0) (fun _ _ _ _ _ => True) (fun _ U o U' => ∃ v L, o = .returned v ∧ Q2 Z vv vn h0 n0 v U'.heap L ∧ FrameEnd U o U' L ({ frames := 0, cells := 0, slots := 0, locals := 0 } : Room).cells ({ frames := 0, cells := 0, slots := 0, locals := 0 } : Room).slots) := by
  refine MetFree.of_bodySF (plainFor_of_name pn_6) hisR ?_
  intro p e s m args below meth c s₁ Bd hml0 hP hK
  obtain ⟨rfl, hZ, hh⟩ := hP
  have hx := Bd.exec
  have hby := Bd.bytes
  have hml : c.maxLocals = 4 := hml0
  have hown : s.vm.findClass "com/example/causeline/causeline/core/BitWriterDigitsPinLaw" = some m.cls := findClass_of_methodNamed Bd.named
  have hnm := (name_of_methodNamed Bd.named Bd.method).1
  have X0 : Stand p l e ({ frames := 0, cells := 0, slots := 0, locals := 0 } : Room) s m #[(.long vv), (.int vn)] below meth c s₁ [] 0 0 := Stand.of_body Bd
  have e0 : s₁.heap = h0 := by rw [← hh, Bd.state]; rfl
  have N0 := Fr.nil n0
  have pre0 : ∀ t, Steps p.tables e below (s₁.setTop (mkF m 0 #[.val (.long vv), .second, .val (.int vn), .unset] [])) t → Steps p.tables e below (s₁.setTop (entryFrame m #[(.long vv), (.int vn)] 4)) t := fun t k => castTop (ef_rm2 m vv vn) k
  have pre1 : ∀ t, Steps p.tables e below (s₁.setTop (mkF m 8 #[.val (.long vv), .second, .val (.int vn), .val (.int ((64 : Int32) - vn))] [(.int (64 : Int32)), (.int ((64 : Int32) - vn))])) t → Steps p.tables e below (s₁.setTop (entryFrame m #[(.long vv), (.int vn)] 4)) t := by
    intro t kt
    refine pre0 t ?_
    show Steps p.tables e below (s₁.setTop (mkF m 0 #[.val (.long vv), .second, .val (.int vn), .unset] [])) _
    refine XS.bipush X0.here hx rfl (hb hby d2_0) ?_
    show Steps p.tables e below (s₁.setTop (mkF m 2 #[.val (.long vv), .second, .val (.int vn), .unset] [(.int (64 : Int32))])) _
    refine XS.iloadN X0.here hx rfl (hb hby d2_2) rfl ?_
    show Steps p.tables e below (s₁.setTop (mkF m 3 #[.val (.long vv), .second, .val (.int vn), .unset] [(.int vn), (.int (64 : Int32))])) _
    refine XS.isub X0.here hx rfl (hb hby d2_3) rfl ?_
    show Steps p.tables e below (s₁.setTop (mkF m 4 #[.val (.long vv), .second, .val (.int vn), .unset] [(.int ((64 : Int32) - vn))])) _
    refine XS.istoreN X0.here hx rfl (hb hby d2_4) rfl (l' := #[.val (.long vv), .second, .val (.int vn), .val (.int ((64 : Int32) - vn))]) rfl ?_
    show Steps p.tables e below (s₁.setTop (mkF m 5 #[.val (.long vv), .second, .val (.int vn), .val (.int ((64 : Int32) - vn))] [])) _
    refine XS.iloadN X0.here hx rfl (hb hby d2_5) rfl ?_
    show Steps p.tables e below (s₁.setTop (mkF m 6 #[.val (.long vv), .second, .val (.int vn), .val (.int ((64 : Int32) - vn))] [(.int ((64 : Int32) - vn))])) _
    refine XS.bipush X0.here hx rfl (hb hby d2_6) ?_
    exact kt
  by_cases hc2 : ((64 : Int32) - vn) < (64 : Int32)
  ·
    have pre3 : ∀ t, Steps p.tables e below (s₁.setTop (mkF m 14 #[.val (.long vv), .second, .val (.int vn), .val (.int ((64 : Int32) - vn))] [(.int ((64 : Int32) - vn))])) t → Steps p.tables e below (s₁.setTop (entryFrame m #[(.long vv), (.int vn)] 4)) t := by
      intro t kt
      refine pre1 t ?_
      show Steps p.tables e below (s₁.setTop (mkF m 8 #[.val (.long vv), .second, .val (.int vn), .val (.int ((64 : Int32) - vn))] [(.int (64 : Int32)), (.int ((64 : Int32) - vn))])) _
      refine XS.icmpYes X0.here hx rfl (pc0 := 8) (pc' := 13) rfl (hb hby d2_8) rfl (tlt (hc2 : ((64 : Int32) - vn) < (64 : Int32))).1 (by decide) (by decide) ?_
      show Steps p.tables e below (s₁.setTop (mkF m 13 #[.val (.long vv), .second, .val (.int vn), .val (.int ((64 : Int32) - vn))] [])) _
      refine XS.iloadN X0.here hx rfl (hb hby d2_13) rfl ?_
      exact kt
    by_cases hc4 : ((64 : Int32) - vn) < (0 : Int32)
    ·
      obtain ⟨fs, hr, hrun, hended, hW, hsame⟩ := X0.leave (v := some (.long ((vv.toUInt64 >>> ((-((64 : Int32) - vn)) &&& 0x3f).toInt64.toUInt64).toInt64))) (fun h => by rw [Bd.returns] at h; cases h)
      refine ⟨_, _, pre3 _ ?_, hrun, hended, _, _, rfl, ?_, ⟨_, rfl⟩, hW, hsame.mono (by decide) (by decide)⟩
      ·
        show Steps p.tables e below (s₁.setTop (mkF m 14 #[.val (.long vv), .second, .val (.int vn), .val (.int ((64 : Int32) - vn))] [(.int ((64 : Int32) - vn))])) _
        refine XS.ifYes X0.here hx rfl (pc0 := 14) (pc' := 21) rfl (hb hby d2_14) rfl ((if0 _ _).trans (tlt (hc4 : ((64 : Int32) - vn) < (0 : Int32))).1) (by decide) (by decide) ?_
        show Steps p.tables e below (s₁.setTop (mkF m 21 #[.val (.long vv), .second, .val (.int vn), .val (.int ((64 : Int32) - vn))] [])) _
        refine XS.lloadN X0.here hx rfl (hb hby d2_21) rfl ?_
        show Steps p.tables e below (s₁.setTop (mkF m 22 #[.val (.long vv), .second, .val (.int vn), .val (.int ((64 : Int32) - vn))] [(.long vv)])) _
        refine XS.iloadN X0.here hx rfl (hb hby d2_22) rfl ?_
        show Steps p.tables e below (s₁.setTop (mkF m 23 #[.val (.long vv), .second, .val (.int vn), .val (.int ((64 : Int32) - vn))] [(.int ((64 : Int32) - vn)), (.long vv)])) _
        refine XS.ineg X0.here hx rfl (hb hby d2_23) rfl ?_
        show Steps p.tables e below (s₁.setTop (mkF m 24 #[.val (.long vv), .second, .val (.int vn), .val (.int ((64 : Int32) - vn))] [(.int (-((64 : Int32) - vn))), (.long vv)])) _
        refine XS.lushr X0.here hx rfl (hb hby d2_24) rfl ?_
        show Steps p.tables e below (s₁.setTop (mkF m 25 #[.val (.long vv), .second, .val (.int vn), .val (.int ((64 : Int32) - vn))] [(.long ((vv.toUInt64 >>> ((-((64 : Int32) - vn)) &&& 0x3f).toInt64.toUInt64).toInt64))])) _
        exact retOut X0 hx (t := .long) (i := .lreturn) Bd.returns rfl (Or.inr (Or.inl ⟨rfl, rfl, _, rfl⟩)) (hb hby d2_25) hr
      ·
        show Q2 Z vv vn h0 n0 _ s₁.heap _
        rw [e0]
        have hv : ((vv.toUInt64 >>> ((-((64 : Int32) - vn)) &&& 0x3f).toInt64.toUInt64).toInt64) = (own_hi vv vn) := by rw [own_hi, if_pos hc2, if_pos hc4]
        exact ⟨(congrArg (fun z => some (Value.long z)) hv), N0, rfl⟩
    ·
      obtain ⟨fs, hr, hrun, hended, hW, hsame⟩ := X0.leave (v := some (.long (vv <<< (((64 : Int32) - vn) &&& 0x3f).toInt64))) (fun h => by rw [Bd.returns] at h; cases h)
      refine ⟨_, _, pre3 _ ?_, hrun, hended, _, _, rfl, ?_, ⟨_, rfl⟩, hW, hsame.mono (by decide) (by decide)⟩
      ·
        show Steps p.tables e below (s₁.setTop (mkF m 14 #[.val (.long vv), .second, .val (.int vn), .val (.int ((64 : Int32) - vn))] [(.int ((64 : Int32) - vn))])) _
        refine XS.ifNo X0.here hx rfl (hb hby d2_14) rfl ((if0 _ _).trans (flt (hc4 : ¬ (((64 : Int32) - vn) < (0 : Int32)))).1) ?_
        show Steps p.tables e below (s₁.setTop (mkF m 17 #[.val (.long vv), .second, .val (.int vn), .val (.int ((64 : Int32) - vn))] [])) _
        refine XS.lloadN X0.here hx rfl (hb hby d2_17) rfl ?_
        show Steps p.tables e below (s₁.setTop (mkF m 18 #[.val (.long vv), .second, .val (.int vn), .val (.int ((64 : Int32) - vn))] [(.long vv)])) _
        refine XS.iloadN X0.here hx rfl (hb hby d2_18) rfl ?_
        show Steps p.tables e below (s₁.setTop (mkF m 19 #[.val (.long vv), .second, .val (.int vn), .val (.int ((64 : Int32) - vn))] [(.int ((64 : Int32) - vn)), (.long vv)])) _
        refine XS.lshl X0.here hx rfl (hb hby d2_19) rfl ?_
        show Steps p.tables e below (s₁.setTop (mkF m 20 #[.val (.long vv), .second, .val (.int vn), .val (.int ((64 : Int32) - vn))] [(.long (vv <<< (((64 : Int32) - vn) &&& 0x3f).toInt64))])) _
        exact retOut X0 hx (t := .long) (i := .lreturn) Bd.returns rfl (Or.inr (Or.inl ⟨rfl, rfl, _, rfl⟩)) (hb hby d2_20) hr
      ·
        show Q2 Z vv vn h0 n0 _ s₁.heap _
        rw [e0]
        have hv : (vv <<< (((64 : Int32) - vn) &&& 0x3f).toInt64) = (own_hi vv vn) := by rw [own_hi, if_pos hc2, if_neg hc4]
        exact ⟨(congrArg (fun z => some (Value.long z)) hv), N0, rfl⟩
  ·
    obtain ⟨fs, hr, hrun, hended, hW, hsame⟩ := X0.leave (v := some (.long (0 : Int64))) (fun h => by rw [Bd.returns] at h; cases h)
    refine ⟨_, _, pre1 _ ?_, hrun, hended, _, _, rfl, ?_, ⟨_, rfl⟩, hW, hsame.mono (by decide) (by decide)⟩
    ·
      show Steps p.tables e below (s₁.setTop (mkF m 8 #[.val (.long vv), .second, .val (.int vn), .val (.int ((64 : Int32) - vn))] [(.int (64 : Int32)), (.int ((64 : Int32) - vn))])) _
      refine XS.icmpNo X0.here hx rfl (hb hby d2_8) rfl (flt (hc2 : ¬ (((64 : Int32) - vn) < (64 : Int32)))).1 ?_
      show Steps p.tables e below (s₁.setTop (mkF m 11 #[.val (.long vv), .second, .val (.int vn), .val (.int ((64 : Int32) - vn))] [])) _
      refine XS.lconst X0.here hx rfl (hb hby d2_11) ?_
      show Steps p.tables e below (s₁.setTop (mkF m 12 #[.val (.long vv), .second, .val (.int vn), .val (.int ((64 : Int32) - vn))] [(.long (0 : Int64))])) _
      exact retOut X0 hx (t := .long) (i := .lreturn) Bd.returns rfl (Or.inr (Or.inl ⟨rfl, rfl, _, rfl⟩)) (hb hby d2_12) hr
    ·
      show Q2 Z vv vn h0 n0 _ s₁.heap _
      rw [e0]
      have hv : (0 : Int64) = (own_hi vv vn) := by rw [own_hi, if_neg hc2]
      exact ⟨(congrArg (fun z => some (Value.long z)) hv), N0, rfl⟩
theorem d3_0 : decode method_4_code 0 = .ok (.sipush 128, 3) := by decide +kernel
theorem d3_3 : decode method_4_code 3 = .ok (.iload_n 2, 1) := by decide +kernel
theorem d3_4 : decode method_4_code 4 = .ok (.isub, 1) := by decide +kernel
theorem d3_5 : decode method_4_code 5 = .ok (.istore_n 3, 1) := by decide +kernel
theorem d3_6 : decode method_4_code 6 = .ok (.iload_n 3, 1) := by decide +kernel
theorem d3_7 : decode method_4_code 7 = .ok (.bipush 64, 2) := by decide +kernel
theorem d3_9 : decode method_4_code 9 = .ok (.if_icmp .lt 5, 3) := by decide +kernel
theorem d3_14 : decode method_4_code 14 = .ok (.lload_n 0, 1) := by decide +kernel
theorem d3_15 : decode method_4_code 15 = .ok (.iload_n 3, 1) := by decide +kernel
theorem d3_16 : decode method_4_code 16 = .ok (.lshl, 1) := by decide +kernel
theorem d3_17 : decode method_4_code 17 = .ok (.lreturn, 1) := by decide +kernel
theorem d3_12 : decode method_4_code 12 = .ok (.lconst 0, 1) := by decide +kernel
theorem d3_13 : decode method_4_code 13 = .ok (.lreturn, 1) := by decide +kernel
theorem ef_rm3 (m : MethodId) (x0 : Int64) (x1 : Int32) : entryFrame m #[(.long x0), (.int x1)] 4 = mkF m 0 #[.val (.long x0), .second, .val (.int x1), .unset] [] := by first | (simp [entryFrame, mkF, argsToLocals, Value.category]; done) | rfl
def own_lo (vv : Int64) (vn : Int32) : Int64 := (if ((128 : Int32) - vn) < (64 : Int32) then (vv <<< (((128 : Int32) - vn) &&& 0x3f).toInt64) else (0 : Int64))
def Q3 (Z : State) (vv : Int64) (vn : Int32) (h0 : Heap) (n0 : Nat) (v : Option Value) (h : Heap) (L : List Loc) : Prop := v = some (.long (own_lo vv vn)) ∧ Fr n0 L ∧ h = h0
set_option maxRecDepth 65536 in
set_option maxHeartbeats 40000000 in
theorem rm3 (l : Launch) (Z : State) (a0 : Array Value) (hw : ∀ d ∈ tables_1, d.before a0 Z = true) (ws : List Jvm.Cond) (vv : Int64) (vn : Int32) (h0 : Heap) (n0 : Nat) (Z0 : n0 ≤ h0.size) :
    MetFree l (⟨"com/example/causeline/causeline/core/BitWriterDigitsPinLaw", "loOf", "(JI)J"⟩ : MethodName) (head1 (Jvm.Cond.code (⟨"com/example/causeline/causeline/core/BitWriterDigitsPinLaw", "loOf", "(JI)J"⟩ : MethodName) method_4_code 4 (some .long) :: ws) ({ frames := 0, cells := 0, slots := 0, locals := 0 } : Room)) (fun a U => a = #[(.long vv), (.int vn)] ∧ Z.Warmed39 U.vm ∧ U.heap = h0) (fun _ _ _ _ _ => True) (fun _ U o U' => ∃ v L, o = .returned v ∧ Q3 Z vv vn h0 n0 v U'.heap L ∧ FrameEnd U o U' L ({ frames := 0, cells := 0, slots := 0, locals := 0 } : Room).cells ({ frames := 0, cells := 0, slots := 0, locals := 0 } : Room).slots) := by
  refine MetFree.of_bodySF (plainFor_of_name pn_6) hisR ?_
  intro p e s m args below meth c s₁ Bd hml0 hP hK
  obtain ⟨rfl, hZ, hh⟩ := hP
  have hx := Bd.exec
  have hby := Bd.bytes
  have hml : c.maxLocals = 4 := hml0
  have hown : s.vm.findClass "com/example/causeline/causeline/core/BitWriterDigitsPinLaw" = some m.cls := findClass_of_methodNamed Bd.named
  have hnm := (name_of_methodNamed Bd.named Bd.method).1
  have X0 : Stand p l e ({ frames := 0, cells := 0, slots := 0, locals := 0 } : Room) s m #[(.long vv), (.int vn)] below meth c s₁ [] 0 0 := Stand.of_body Bd
  have e0 : s₁.heap = h0 := by rw [← hh, Bd.state]; rfl
  have N0 := Fr.nil n0
  have pre0 : ∀ t, Steps p.tables e below (s₁.setTop (mkF m 0 #[.val (.long vv), .second, .val (.int vn), .unset] [])) t → Steps p.tables e below (s₁.setTop (entryFrame m #[(.long vv), (.int vn)] 4)) t := fun t k => castTop (ef_rm3 m vv vn) k
  have pre1 : ∀ t, Steps p.tables e below (s₁.setTop (mkF m 9 #[.val (.long vv), .second, .val (.int vn), .val (.int ((128 : Int32) - vn))] [(.int (64 : Int32)), (.int ((128 : Int32) - vn))])) t → Steps p.tables e below (s₁.setTop (entryFrame m #[(.long vv), (.int vn)] 4)) t := by
    intro t kt
    refine pre0 t ?_
    show Steps p.tables e below (s₁.setTop (mkF m 0 #[.val (.long vv), .second, .val (.int vn), .unset] [])) _
    refine XS.sipush X0.here hx rfl (hb hby d3_0) ?_
    show Steps p.tables e below (s₁.setTop (mkF m 3 #[.val (.long vv), .second, .val (.int vn), .unset] [(.int (128 : Int32))])) _
    refine XS.iloadN X0.here hx rfl (hb hby d3_3) rfl ?_
    show Steps p.tables e below (s₁.setTop (mkF m 4 #[.val (.long vv), .second, .val (.int vn), .unset] [(.int vn), (.int (128 : Int32))])) _
    refine XS.isub X0.here hx rfl (hb hby d3_4) rfl ?_
    show Steps p.tables e below (s₁.setTop (mkF m 5 #[.val (.long vv), .second, .val (.int vn), .unset] [(.int ((128 : Int32) - vn))])) _
    refine XS.istoreN X0.here hx rfl (hb hby d3_5) rfl (l' := #[.val (.long vv), .second, .val (.int vn), .val (.int ((128 : Int32) - vn))]) rfl ?_
    show Steps p.tables e below (s₁.setTop (mkF m 6 #[.val (.long vv), .second, .val (.int vn), .val (.int ((128 : Int32) - vn))] [])) _
    refine XS.iloadN X0.here hx rfl (hb hby d3_6) rfl ?_
    show Steps p.tables e below (s₁.setTop (mkF m 7 #[.val (.long vv), .second, .val (.int vn), .val (.int ((128 : Int32) - vn))] [(.int ((128 : Int32) - vn))])) _
    refine XS.bipush X0.here hx rfl (hb hby d3_7) ?_
    exact kt
  by_cases hc2 : ((128 : Int32) - vn) < (64 : Int32)
  ·
    obtain ⟨fs, hr, hrun, hended, hW, hsame⟩ := X0.leave (v := some (.long (vv <<< (((128 : Int32) - vn) &&& 0x3f).toInt64))) (fun h => by rw [Bd.returns] at h; cases h)
    refine ⟨_, _, pre1 _ ?_, hrun, hended, _, _, rfl, ?_, ⟨_, rfl⟩, hW, hsame.mono (by decide) (by decide)⟩
    ·
      show Steps p.tables e below (s₁.setTop (mkF m 9 #[.val (.long vv), .second, .val (.int vn), .val (.int ((128 : Int32) - vn))] [(.int (64 : Int32)), (.int ((128 : Int32) - vn))])) _
      refine XS.icmpYes X0.here hx rfl (pc0 := 9) (pc' := 14) rfl (hb hby d3_9) rfl (tlt (hc2 : ((128 : Int32) - vn) < (64 : Int32))).1 (by decide) (by decide) ?_
      show Steps p.tables e below (s₁.setTop (mkF m 14 #[.val (.long vv), .second, .val (.int vn), .val (.int ((128 : Int32) - vn))] [])) _
      refine XS.lloadN X0.here hx rfl (hb hby d3_14) rfl ?_
      show Steps p.tables e below (s₁.setTop (mkF m 15 #[.val (.long vv), .second, .val (.int vn), .val (.int ((128 : Int32) - vn))] [(.long vv)])) _
      refine XS.iloadN X0.here hx rfl (hb hby d3_15) rfl ?_
      show Steps p.tables e below (s₁.setTop (mkF m 16 #[.val (.long vv), .second, .val (.int vn), .val (.int ((128 : Int32) - vn))] [(.int ((128 : Int32) - vn)), (.long vv)])) _
      refine XS.lshl X0.here hx rfl (hb hby d3_16) rfl ?_
      show Steps p.tables e below (s₁.setTop (mkF m 17 #[.val (.long vv), .second, .val (.int vn), .val (.int ((128 : Int32) - vn))] [(.long (vv <<< (((128 : Int32) - vn) &&& 0x3f).toInt64))])) _
      exact retOut X0 hx (t := .long) (i := .lreturn) Bd.returns rfl (Or.inr (Or.inl ⟨rfl, rfl, _, rfl⟩)) (hb hby d3_17) hr
    ·
      show Q3 Z vv vn h0 n0 _ s₁.heap _
      rw [e0]
      have hv : (vv <<< (((128 : Int32) - vn) &&& 0x3f).toInt64) = (own_lo vv vn) := by rw [own_lo, if_pos hc2]
      exact ⟨(congrArg (fun z => some (Value.long z)) hv), N0, rfl⟩
  ·
    obtain ⟨fs, hr, hrun, hended, hW, hsame⟩ := X0.leave (v := some (.long (0 : Int64))) (fun h => by rw [Bd.returns] at h; cases h)
    refine ⟨_, _, pre1 _ ?_, hrun, hended, _, _, rfl, ?_, ⟨_, rfl⟩, hW, hsame.mono (by decide) (by decide)⟩
    ·
      show Steps p.tables e below (s₁.setTop (mkF m 9 #[.val (.long vv), .second, .val (.int vn), .val (.int ((128 : Int32) - vn))] [(.int (64 : Int32)), (.int ((128 : Int32) - vn))])) _
      refine XS.icmpNo X0.here hx rfl (hb hby d3_9) rfl (flt (hc2 : ¬ (((128 : Int32) - vn) < (64 : Int32)))).1 ?_
      show Steps p.tables e below (s₁.setTop (mkF m 12 #[.val (.long vv), .second, .val (.int vn), .val (.int ((128 : Int32) - vn))] [])) _
      refine XS.lconst X0.here hx rfl (hb hby d3_12) ?_
      show Steps p.tables e below (s₁.setTop (mkF m 13 #[.val (.long vv), .second, .val (.int vn), .val (.int ((128 : Int32) - vn))] [(.long (0 : Int64))])) _
      exact retOut X0 hx (t := .long) (i := .lreturn) Bd.returns rfl (Or.inr (Or.inl ⟨rfl, rfl, _, rfl⟩)) (hb hby d3_13) hr
    ·
      show Q3 Z vv vn h0 n0 _ s₁.heap _
      rw [e0]
      have hv : (0 : Int64) = (own_lo vv vn) := by rw [own_lo, if_neg hc2]
      exact ⟨(congrArg (fun z => some (Value.long z)) hv), N0, rfl⟩
theorem d12_0 : decode method_5_code 0 = .ok (.iload 4, 2) := by decide +kernel
theorem d12_2 : decode method_5_code 2 = .ok (.bipush 8, 2) := by decide +kernel
theorem d12_4 : decode method_5_code 4 = .ok (.if_icmp .ge 16, 3) := by decide +kernel
theorem d12_7 : decode method_5_code 7 = .ok (.lload_n 0, 1) := by decide +kernel
theorem d12_8 : decode method_5_code 8 = .ok (.bipush 56, 2) := by decide +kernel
theorem d12_10 : decode method_5_code 10 = .ok (.bipush 8, 2) := by decide +kernel
theorem d12_12 : decode method_5_code 12 = .ok (.iload 4, 2) := by decide +kernel
theorem d12_14 : decode method_5_code 14 = .ok (.imul, 1) := by decide +kernel
theorem d12_15 : decode method_5_code 15 = .ok (.isub, 1) := by decide +kernel
theorem d12_16 : decode method_5_code 16 = .ok (.lushr, 1) := by decide +kernel
theorem d12_17 : decode method_5_code 17 = .ok (.l2i, 1) := by decide +kernel
theorem d12_18 : decode method_5_code 18 = .ok (.i2b, 1) := by decide +kernel
theorem d12_19 : decode method_5_code 19 = .ok (.ireturn, 1) := by decide +kernel
theorem d12_20 : decode method_5_code 20 = .ok (.lload_n 2, 1) := by decide +kernel
theorem d12_21 : decode method_5_code 21 = .ok (.bipush 56, 2) := by decide +kernel
theorem d12_23 : decode method_5_code 23 = .ok (.bipush 8, 2) := by decide +kernel
theorem d12_25 : decode method_5_code 25 = .ok (.iload 4, 2) := by decide +kernel
theorem d12_27 : decode method_5_code 27 = .ok (.bipush 8, 2) := by decide +kernel
theorem d12_29 : decode method_5_code 29 = .ok (.isub, 1) := by decide +kernel
theorem d12_30 : decode method_5_code 30 = .ok (.imul, 1) := by decide +kernel
theorem d12_31 : decode method_5_code 31 = .ok (.isub, 1) := by decide +kernel
theorem d12_32 : decode method_5_code 32 = .ok (.lushr, 1) := by decide +kernel
theorem d12_33 : decode method_5_code 33 = .ok (.l2i, 1) := by decide +kernel
theorem d12_34 : decode method_5_code 34 = .ok (.i2b, 1) := by decide +kernel
theorem d12_35 : decode method_5_code 35 = .ok (.ireturn, 1) := by decide +kernel
theorem ef_rm12 (m : MethodId) (x0 : Int64) (x1 : Int64) (x2 : Int32) : entryFrame m #[(.long x0), (.long x1), (.int x2)] 5 = mkF m 0 #[.val (.long x0), .second, .val (.long x1), .second, .val (.int x2)] [] := by first | (simp [entryFrame, mkF, argsToLocals, Value.category]; done) | rfl
def own_exp (vh : Int64) (vl : Int64) (vi : Int32) : Int32 := (if vi < (8 : Int32) then (nar .byte ((((vh.toUInt64 >>> (((56 : Int32) - ((8 : Int32) * vi)) &&& 0x3f).toInt64.toUInt64).toInt64).toInt32).toInt8.toInt32)) else (nar .byte ((((vl.toUInt64 >>> (((56 : Int32) - ((8 : Int32) * (vi - (8 : Int32)))) &&& 0x3f).toInt64.toUInt64).toInt64).toInt32).toInt8.toInt32)))
def Q12 (Z : State) (vh : Int64) (vl : Int64) (vi : Int32) (h0 : Heap) (n0 : Nat) (v : Option Value) (h : Heap) (L : List Loc) : Prop := v = some (.int (own_exp vh vl vi)) ∧ Fr n0 L ∧ h = h0
set_option maxRecDepth 65536 in
set_option maxHeartbeats 40000000 in
theorem rm12 (l : Launch) (Z : State) (a0 : Array Value) (hw : ∀ d ∈ tables_1, d.before a0 Z = true) (ws : List Jvm.Cond) (vh : Int64) (vl : Int64) (vi : Int32) (h0 : Heap) (n0 : Nat) (Z0 : n0 ≤ h0.size) :
    MetFree l (⟨"com/example/causeline/causeline/core/BitWriterDigitsPinLaw", "expByte", "(JJI)B"⟩ : MethodName) (head1 (Jvm.Cond.code (⟨"com/example/causeline/causeline/core/BitWriterDigitsPinLaw", "expByte", "(JJI)B"⟩ : MethodName) method_5_code 5 (some .byte) :: ws) ({ frames := 0, cells := 0, slots := 0, locals := 0 } : Room)) (fun a U => a = #[(.long vh), (.long vl), (.int vi)] ∧ Z.Warmed39 U.vm ∧ U.heap = h0) (fun _ _ _ _ _ => True) (fun _ U o U' => ∃ v L, o = .returned v ∧ Q12 Z vh vl vi h0 n0 v U'.heap L ∧ FrameEnd U o U' L ({ frames := 0, cells := 0, slots := 0, locals := 0 } : Room).cells ({ frames := 0, cells := 0, slots := 0, locals := 0 } : Room).slots) := by
  refine MetFree.of_bodySF (plainFor_of_name pn_6) hisR ?_
  intro p e s m args below meth c s₁ Bd hml0 hP hK
  obtain ⟨rfl, hZ, hh⟩ := hP
  have hx := Bd.exec
  have hby := Bd.bytes
  have hml : c.maxLocals = 5 := hml0
  have hown : s.vm.findClass "com/example/causeline/causeline/core/BitWriterDigitsPinLaw" = some m.cls := findClass_of_methodNamed Bd.named
  have hnm := (name_of_methodNamed Bd.named Bd.method).1
  have X0 : Stand p l e ({ frames := 0, cells := 0, slots := 0, locals := 0 } : Room) s m #[(.long vh), (.long vl), (.int vi)] below meth c s₁ [] 0 0 := Stand.of_body Bd
  have e0 : s₁.heap = h0 := by rw [← hh, Bd.state]; rfl
  have N0 := Fr.nil n0
  have pre0 : ∀ t, Steps p.tables e below (s₁.setTop (mkF m 0 #[.val (.long vh), .second, .val (.long vl), .second, .val (.int vi)] [])) t → Steps p.tables e below (s₁.setTop (entryFrame m #[(.long vh), (.long vl), (.int vi)] 5)) t := fun t k => castTop (ef_rm12 m vh vl vi) k
  have pre1 : ∀ t, Steps p.tables e below (s₁.setTop (mkF m 4 #[.val (.long vh), .second, .val (.long vl), .second, .val (.int vi)] [(.int (8 : Int32)), (.int vi)])) t → Steps p.tables e below (s₁.setTop (entryFrame m #[(.long vh), (.long vl), (.int vi)] 5)) t := by
    intro t kt
    refine pre0 t ?_
    show Steps p.tables e below (s₁.setTop (mkF m 0 #[.val (.long vh), .second, .val (.long vl), .second, .val (.int vi)] [])) _
    refine XS.iload X0.here hx rfl (hb hby d12_0) rfl ?_
    show Steps p.tables e below (s₁.setTop (mkF m 2 #[.val (.long vh), .second, .val (.long vl), .second, .val (.int vi)] [(.int vi)])) _
    refine XS.bipush X0.here hx rfl (hb hby d12_2) ?_
    exact kt
  by_cases hc2 : vi < (8 : Int32)
  ·
    obtain ⟨fs, hr, hrun, hended, hW, hsame⟩ := X0.leave (v := some (.int (nar .byte ((((vh.toUInt64 >>> (((56 : Int32) - ((8 : Int32) * vi)) &&& 0x3f).toInt64.toUInt64).toInt64).toInt32).toInt8.toInt32)))) (fun h => by rw [Bd.returns] at h; cases h)
    refine ⟨_, _, pre1 _ ?_, hrun, hended, _, _, rfl, ?_, ⟨_, rfl⟩, hW, hsame.mono (by decide) (by decide)⟩
    ·
      show Steps p.tables e below (s₁.setTop (mkF m 4 #[.val (.long vh), .second, .val (.long vl), .second, .val (.int vi)] [(.int (8 : Int32)), (.int vi)])) _
      refine XS.icmpNo X0.here hx rfl (hb hby d12_4) rfl (tlt (hc2 : vi < (8 : Int32))).2.1 ?_
      show Steps p.tables e below (s₁.setTop (mkF m 7 #[.val (.long vh), .second, .val (.long vl), .second, .val (.int vi)] [])) _
      refine XS.lloadN X0.here hx rfl (hb hby d12_7) rfl ?_
      show Steps p.tables e below (s₁.setTop (mkF m 8 #[.val (.long vh), .second, .val (.long vl), .second, .val (.int vi)] [(.long vh)])) _
      refine XS.bipush X0.here hx rfl (hb hby d12_8) ?_
      show Steps p.tables e below (s₁.setTop (mkF m 10 #[.val (.long vh), .second, .val (.long vl), .second, .val (.int vi)] [(.int (56 : Int32)), (.long vh)])) _
      refine XS.bipush X0.here hx rfl (hb hby d12_10) ?_
      show Steps p.tables e below (s₁.setTop (mkF m 12 #[.val (.long vh), .second, .val (.long vl), .second, .val (.int vi)] [(.int (8 : Int32)), (.int (56 : Int32)), (.long vh)])) _
      refine XS.iload X0.here hx rfl (hb hby d12_12) rfl ?_
      show Steps p.tables e below (s₁.setTop (mkF m 14 #[.val (.long vh), .second, .val (.long vl), .second, .val (.int vi)] [(.int vi), (.int (8 : Int32)), (.int (56 : Int32)), (.long vh)])) _
      refine XS.imul X0.here hx rfl (hb hby d12_14) rfl ?_
      show Steps p.tables e below (s₁.setTop (mkF m 15 #[.val (.long vh), .second, .val (.long vl), .second, .val (.int vi)] [(.int ((8 : Int32) * vi)), (.int (56 : Int32)), (.long vh)])) _
      refine XS.isub X0.here hx rfl (hb hby d12_15) rfl ?_
      show Steps p.tables e below (s₁.setTop (mkF m 16 #[.val (.long vh), .second, .val (.long vl), .second, .val (.int vi)] [(.int ((56 : Int32) - ((8 : Int32) * vi))), (.long vh)])) _
      refine XS.lushr X0.here hx rfl (hb hby d12_16) rfl ?_
      show Steps p.tables e below (s₁.setTop (mkF m 17 #[.val (.long vh), .second, .val (.long vl), .second, .val (.int vi)] [(.long ((vh.toUInt64 >>> (((56 : Int32) - ((8 : Int32) * vi)) &&& 0x3f).toInt64.toUInt64).toInt64))])) _
      refine XS.l2i X0.here hx rfl (hb hby d12_17) rfl ?_
      show Steps p.tables e below (s₁.setTop (mkF m 18 #[.val (.long vh), .second, .val (.long vl), .second, .val (.int vi)] [(.int (((vh.toUInt64 >>> (((56 : Int32) - ((8 : Int32) * vi)) &&& 0x3f).toInt64.toUInt64).toInt64).toInt32))])) _
      refine XS.i2b X0.here hx rfl (hb hby d12_18) rfl ?_
      show Steps p.tables e below (s₁.setTop (mkF m 19 #[.val (.long vh), .second, .val (.long vl), .second, .val (.int vi)] [(.int ((((vh.toUInt64 >>> (((56 : Int32) - ((8 : Int32) * vi)) &&& 0x3f).toInt64.toUInt64).toInt64).toInt32).toInt8.toInt32))])) _
      exact retN X0 hx (t := .byte) Bd.returns (by simp) (hb hby d12_19) hr
    ·
      show Q12 Z vh vl vi h0 n0 _ s₁.heap _
      rw [e0]
      have hv : nar .byte ((((vh.toUInt64 >>> (((56 : Int32) - ((8 : Int32) * vi)) &&& 0x3f).toInt64.toUInt64).toInt64).toInt32).toInt8.toInt32) = (own_exp vh vl vi) := by rw [own_exp, if_pos hc2]
      exact ⟨(congrArg (fun z => some (Value.int z)) hv), N0, rfl⟩
  ·
    obtain ⟨fs, hr, hrun, hended, hW, hsame⟩ := X0.leave (v := some (.int (nar .byte ((((vl.toUInt64 >>> (((56 : Int32) - ((8 : Int32) * (vi - (8 : Int32)))) &&& 0x3f).toInt64.toUInt64).toInt64).toInt32).toInt8.toInt32)))) (fun h => by rw [Bd.returns] at h; cases h)
    refine ⟨_, _, pre1 _ ?_, hrun, hended, _, _, rfl, ?_, ⟨_, rfl⟩, hW, hsame.mono (by decide) (by decide)⟩
    ·
      show Steps p.tables e below (s₁.setTop (mkF m 4 #[.val (.long vh), .second, .val (.long vl), .second, .val (.int vi)] [(.int (8 : Int32)), (.int vi)])) _
      refine XS.icmpYes X0.here hx rfl (pc0 := 4) (pc' := 20) rfl (hb hby d12_4) rfl (flt (hc2 : ¬ (vi < (8 : Int32)))).2.1 (by decide) (by decide) ?_
      show Steps p.tables e below (s₁.setTop (mkF m 20 #[.val (.long vh), .second, .val (.long vl), .second, .val (.int vi)] [])) _
      refine XS.lloadN X0.here hx rfl (hb hby d12_20) rfl ?_
      show Steps p.tables e below (s₁.setTop (mkF m 21 #[.val (.long vh), .second, .val (.long vl), .second, .val (.int vi)] [(.long vl)])) _
      refine XS.bipush X0.here hx rfl (hb hby d12_21) ?_
      show Steps p.tables e below (s₁.setTop (mkF m 23 #[.val (.long vh), .second, .val (.long vl), .second, .val (.int vi)] [(.int (56 : Int32)), (.long vl)])) _
      refine XS.bipush X0.here hx rfl (hb hby d12_23) ?_
      show Steps p.tables e below (s₁.setTop (mkF m 25 #[.val (.long vh), .second, .val (.long vl), .second, .val (.int vi)] [(.int (8 : Int32)), (.int (56 : Int32)), (.long vl)])) _
      refine XS.iload X0.here hx rfl (hb hby d12_25) rfl ?_
      show Steps p.tables e below (s₁.setTop (mkF m 27 #[.val (.long vh), .second, .val (.long vl), .second, .val (.int vi)] [(.int vi), (.int (8 : Int32)), (.int (56 : Int32)), (.long vl)])) _
      refine XS.bipush X0.here hx rfl (hb hby d12_27) ?_
      show Steps p.tables e below (s₁.setTop (mkF m 29 #[.val (.long vh), .second, .val (.long vl), .second, .val (.int vi)] [(.int (8 : Int32)), (.int vi), (.int (8 : Int32)), (.int (56 : Int32)), (.long vl)])) _
      refine XS.isub X0.here hx rfl (hb hby d12_29) rfl ?_
      show Steps p.tables e below (s₁.setTop (mkF m 30 #[.val (.long vh), .second, .val (.long vl), .second, .val (.int vi)] [(.int (vi - (8 : Int32))), (.int (8 : Int32)), (.int (56 : Int32)), (.long vl)])) _
      refine XS.imul X0.here hx rfl (hb hby d12_30) rfl ?_
      show Steps p.tables e below (s₁.setTop (mkF m 31 #[.val (.long vh), .second, .val (.long vl), .second, .val (.int vi)] [(.int ((8 : Int32) * (vi - (8 : Int32)))), (.int (56 : Int32)), (.long vl)])) _
      refine XS.isub X0.here hx rfl (hb hby d12_31) rfl ?_
      show Steps p.tables e below (s₁.setTop (mkF m 32 #[.val (.long vh), .second, .val (.long vl), .second, .val (.int vi)] [(.int ((56 : Int32) - ((8 : Int32) * (vi - (8 : Int32))))), (.long vl)])) _
      refine XS.lushr X0.here hx rfl (hb hby d12_32) rfl ?_
      show Steps p.tables e below (s₁.setTop (mkF m 33 #[.val (.long vh), .second, .val (.long vl), .second, .val (.int vi)] [(.long ((vl.toUInt64 >>> (((56 : Int32) - ((8 : Int32) * (vi - (8 : Int32)))) &&& 0x3f).toInt64.toUInt64).toInt64))])) _
      refine XS.l2i X0.here hx rfl (hb hby d12_33) rfl ?_
      show Steps p.tables e below (s₁.setTop (mkF m 34 #[.val (.long vh), .second, .val (.long vl), .second, .val (.int vi)] [(.int (((vl.toUInt64 >>> (((56 : Int32) - ((8 : Int32) * (vi - (8 : Int32)))) &&& 0x3f).toInt64.toUInt64).toInt64).toInt32))])) _
      refine XS.i2b X0.here hx rfl (hb hby d12_34) rfl ?_
      show Steps p.tables e below (s₁.setTop (mkF m 35 #[.val (.long vh), .second, .val (.long vl), .second, .val (.int vi)] [(.int ((((vl.toUInt64 >>> (((56 : Int32) - ((8 : Int32) * (vi - (8 : Int32)))) &&& 0x3f).toInt64.toUInt64).toInt64).toInt32).toInt8.toInt32))])) _
      exact retN X0 hx (t := .byte) Bd.returns (by simp) (hb hby d12_35) hr
    ·
      show Q12 Z vh vl vi h0 n0 _ s₁.heap _
      rw [e0]
      have hv : nar .byte ((((vl.toUInt64 >>> (((56 : Int32) - ((8 : Int32) * (vi - (8 : Int32)))) &&& 0x3f).toInt64.toUInt64).toInt64).toInt32).toInt8.toInt32) = (own_exp vh vl vi) := by rw [own_exp, if_neg hc2]
      exact ⟨(congrArg (fun z => some (Value.int z)) hv), N0, rfl⟩
theorem d4_0 : decode prog_23_method_1_code 0 = .ok (.aload_n 0, 1) := by decide +kernel
theorem d4_1 : decode prog_23_method_1_code 1 = .ok (.invokespecial 1, 3) := by decide +kernel
theorem d4_4 : decode prog_23_method_1_code 4 = .ok (.aload_n 0, 1) := by decide +kernel
theorem d4_5 : decode prog_23_method_1_code 5 = .ok (.iload_n 1, 1) := by decide +kernel
theorem d4_6 : decode prog_23_method_1_code 6 = .ok (.newarray .byte, 2) := by decide +kernel
theorem d4_8 : decode prog_23_method_1_code 8 = .ok (.putfield 7, 3) := by decide +kernel
theorem d4_11 : decode prog_23_method_1_code 11 = .ok (.return_, 1) := by decide +kernel
theorem pn_72 : plainName "com/example/causeline/causeline/core/BitWriter" = true := by first | (simp [plainName, overriddenIn]; done) | decide +kernel
theorem ef_rm4 (m : MethodId) (x0 : Addr) (x1 : Int32) : entryFrame m #[(.ref x0), (.int x1)] 2 = mkF m 0 #[.val (.ref x0), .val (.int x1)] [] := by first | (simp [entryFrame, mkF, argsToLocals, Value.category]; done) | rfl
def Q4 (Z : State) (va : Addr) (vn : Int32) (h0 : Heap) (n0 : Nat) (v : Option Value) (h : Heap) (L : List Loc) : Prop := v = none ∧ Fr n0 L ∧ Keep h0 h [va] ∧ ∃ (vb : Addr) (kb : ClassId), h0.size ≤ vb ∧ n0 ≤ vb ∧ va ≠ vb ∧ Exa Z h va "com/example/causeline/causeline/core/BitWriter" ∧ Fld Z h va "com/example/causeline/causeline/core/BitWriter" "bytes" "[B" (.ref vb) ∧ Fld Z h va "com/example/causeline/causeline/core/BitWriter" "at" "J" (.long (0 : Int64)) ∧ Arv Z h vb kb .byte vn [] (.int (0 : Int32))
set_option maxRecDepth 65536 in
set_option maxHeartbeats 40000000 in
theorem rm4 (l : Launch) (Z : State) (a0 : Array Value) (hw : ∀ d ∈ tables_1, d.before a0 Z = true) (ws : List Jvm.Cond) (va : Addr) (vn : Int32) (h0 : Heap) (n0 : Nat) (Z0 : n0 ≤ h0.size) (Ea : Exa Z h0 va "com/example/causeline/causeline/core/BitWriter") (Fb : Fld Z h0 va "com/example/causeline/causeline/core/BitWriter" "bytes" "[B" .null) (Fat : Fld Z h0 va "com/example/causeline/causeline/core/BitWriter" "at" "J" (.long (0 : Int64))) (g_va : n0 ≤ va) (hn0 : ¬ vn < 0) (hn1 : vn.toNatClampNeg ≤ 16) :
    MetFree l (⟨"com/example/causeline/causeline/core/BitWriter", "<init>", "(I)V"⟩ : MethodName) (head1 (Jvm.Cond.code (⟨"com/example/causeline/causeline/core/BitWriter", "<init>", "(I)V"⟩ : MethodName) prog_23_method_1_code 2 none :: ws) ({ frames := 1, cells := 1, slots := 16, locals := 12 } : Room)) (fun a U => a = #[(.ref va), (.int vn)] ∧ Z.Warmed39 U.vm ∧ U.heap = h0) (fun _ _ _ _ _ => True) (fun _ U o U' => ∃ v L, o = .returned v ∧ Q4 Z va vn h0 n0 v U'.heap L ∧ FrameEnd U o U' L ({ frames := 1, cells := 1, slots := 16, locals := 12 } : Room).cells ({ frames := 1, cells := 1, slots := 16, locals := 12 } : Room).slots) := by
  refine MetFree.of_bodySF (plainFor_of_name pn_72) hisR ?_
  intro p e s m args below meth c s₁ Bd hml0 hP hK
  obtain ⟨rfl, hZ, hh⟩ := hP
  have hx := Bd.exec
  have hby := Bd.bytes
  have hml : c.maxLocals = 2 := hml0
  have hown : s.vm.findClass "com/example/causeline/causeline/core/BitWriter" = some m.cls := findClass_of_methodNamed Bd.named
  have hnm := (name_of_methodNamed Bd.named Bd.method).1
  have X0 : Stand p l e ({ frames := 1, cells := 1, slots := 16, locals := 12 } : Room) s m #[(.ref va), (.int vn)] below meth c s₁ [] 0 0 := Stand.of_body Bd
  have e0 : s₁.heap = h0 := by rw [← hh, Bd.state]; rfl
  have N0 := Fr.nil n0
  have pre0 : ∀ t, Steps p.tables e below (s₁.setTop (mkF m 0 #[.val (.ref va), .val (.int vn)] [])) t → Steps p.tables e below (s₁.setTop (entryFrame m #[(.ref va), (.int vn)] 2)) t := fun t k => castTop (ef_rm4 m va vn) k
  obtain ⟨T1, X1, e1, st1⟩ := initO X0 hx hZ hown (hw _ (List.mem_of_getElem? (i := 17) rfl)) (hw _ (List.mem_of_getElem? (i := 18) rfl)) (hw _ (List.mem_of_getElem? (i := 19) rfl)) e0 (g := (mkF m 1 #[.val (.ref va), .val (.int vn)] [(.ref va)])) rfl (by rw [hml]; rfl) rfl (hb hby d4_1) (by decide) (W := 0) (by show 2 * 0 + _ ≤ _; exact Nat.le_of_eq rfl) (by decide)
  obtain ⟨T2, h2, k2, X2, e2, E2, A2, st2⟩ := newP X1 hx hZ (hw _ (List.mem_of_getElem? (i := 20) rfl)) e1 (g := (mkF m 6 #[.val (.ref va), .val (.int vn)] [(.int vn), (.ref va)])) rfl (hb hby d4_6) rfl hn0 (cap := 16) hn1 (by decide) (by decide) (by decide)
  obtain ⟨b2, g2⟩ : ∃ z, z = h0.size := ⟨_, rfl⟩
  rw [← g2] at A2 st2
  have ne3 : va ≠ b2 := Nat.ne_of_lt (Nat.lt_of_lt_of_le Ea.lt (Nat.le_of_eq g2.symm))
  have c4 : Exa Z h2 va "com/example/causeline/causeline/core/BitWriter" := Ea.ext E2
  have c5 : Fld Z h2 va "com/example/causeline/causeline/core/BitWriter" "bytes" "[B" .null := Fb.ext E2
  have c6 : Fld Z h2 va "com/example/causeline/causeline/core/BitWriter" "at" "J" (.long (0 : Int64)) := Fat.ext E2
  have g_b2 : n0 ≤ b2 := Nat.le_trans Z0 (Nat.le_of_eq g2.symm)
  have sz_b2 : h0.size ≤ b2 := Nat.le_trans (Keep.refl h0 [va]).1 (Nat.le_of_eq g2.symm)
  have Z2 : n0 ≤ h2.size := Nat.le_trans Z0 E2.1
  have K2 : Keep h0 h2 [va] := (Keep.refl h0 [va]).ext E2
  have V2 : Arv Z h2 b2 k2 .byte vn [] (.int (0 : Int32)) := Arv.new A2 hn0
  obtain ⟨T7, h7, X7, e7, W7, st7⟩ := putF X2 hx hZ hown (host := "") (Or.inl (hw _ (List.mem_of_getElem? (i := 21) rfl))) Via.refl e2 c5 c4 (Or.inr ⟨(hw _ (List.mem_of_getElem? (i := 22) rfl)), rfl, hnm⟩) (hw _ (List.mem_of_getElem? (i := 12) rfl)) (ty := (.array .byte)) (by decide) rfl rfl (g := (mkF m 8 #[.val (.ref va), .val (.int vn)] [(.ref b2), (.ref va)])) rfl rfl (hb hby d4_8)
  have Fw7 : Fld Z h7 va "com/example/causeline/causeline/core/BitWriter" "bytes" "[B" (.ref b2) := c5.same W7
  have c8 : Exa Z h7 va "com/example/causeline/causeline/core/BitWriter" := c4.wr W7
  have c9 : Fld Z h7 va "com/example/causeline/causeline/core/BitWriter" "at" "J" (.long (0 : Int64)) := c6.other W7 (Or.inr (slot_ne (Or.inl (hw _ (List.mem_of_getElem? (i := 29) rfl))) (Or.inr (hw _ (List.mem_of_getElem? (i := 22) rfl))) (by decide) (t := .long) (t' := (.array .byte)) (by decide) (by decide)))
  have c10 : Arv Z h7 b2 k2 .byte vn [] (.int (0 : Int32)) := V2.other W7 (Ne.symm ne3)
  have Z7 : n0 ≤ h7.size := Nat.le_trans Z2 (Keep.of_wr W7).1
  have N7 := Fr.snoc X7 N0 g_va
  have K7 : Keep h0 h7 [va] := K2.wr W7 (Or.inl (List.mem_of_getElem? (i := 0) rfl))
  obtain ⟨fs, hr, hrun, hended, hW, hsame⟩ := X7.leave (v := none) (fun _ => rfl)
  refine ⟨_, _, pre0 _ ?_, hrun, hended, _, _, rfl, ?_, ⟨_, rfl⟩, hW, hsame.mono (by decide) (by decide)⟩
  ·
    show Steps p.tables e below (s₁.setTop (mkF m 0 #[.val (.ref va), .val (.int vn)] [])) _
    refine XS.aloadN X0.here hx rfl (hb hby d4_0) rfl rfl ?_
    show Steps p.tables e below (s₁.setTop (mkF m 1 #[.val (.ref va), .val (.int vn)] [(.ref va)])) _
    refine st1 _ ?_
    show Steps p.tables e below (T1.setTop (mkF m 4 #[.val (.ref va), .val (.int vn)] [])) _
    refine XS.aloadN X1.here hx rfl (hb hby d4_4) rfl rfl ?_
    show Steps p.tables e below (T1.setTop (mkF m 5 #[.val (.ref va), .val (.int vn)] [(.ref va)])) _
    refine XS.iloadN X1.here hx rfl (hb hby d4_5) rfl ?_
    show Steps p.tables e below (T1.setTop (mkF m 6 #[.val (.ref va), .val (.int vn)] [(.int vn), (.ref va)])) _
    refine st2 _ ?_
    show Steps p.tables e below (T2.setTop (mkF m 8 #[.val (.ref va), .val (.int vn)] [(.ref b2), (.ref va)])) _
    refine st7 _ ?_
    show Steps p.tables e below (T7.setTop (mkF m 11 #[.val (.ref va), .val (.int vn)] [])) _
    exact X7.returnOut hx Bd.returns (hb hby d4_11) hr
  ·
    show Q4 Z va vn h0 n0 _ T7.heap _
    rw [e7]
    exact ⟨rfl, N7, K7, b2, _, sz_b2, g_b2, ne3, c8, Fw7, c9, c10⟩

def own_byte (x : Int32) (at_ : Nat) : Int32 := nar .byte ((x ||| (((((128 : Int32).toUInt32 >>> (((Int64.ofNat at_) % (8 : Int64)).toInt32 &&& 31).toUInt32).toInt32).toInt8.toInt32))).toInt8.toInt32)
def own_put (vv : Int64) (k : Nat) (bs : List Int32) (at_ : Nat) : List Int32 := if ((vv.toUInt64 >>> ((Int32.ofNat k) &&& 0x3f).toInt64.toUInt64).toInt64 &&& (1 : Int64)) = (0 : Int64) then bs else bs.set (at_ / 8) (own_byte (bs.getD (at_ / 8) 0) at_)
def own_digs (vv : Int64) : Nat → List Int32 → Nat → List Int32
  | 0, bs, _ => bs
  | k + 1, bs, at_ => own_digs vv k (own_put vv k bs at_) (at_ + 1)
theorem own_put_len (vv : Int64) (k : Nat) (bs : List Int32) (at_ : Nat) : (own_put vv k bs at_).length = bs.length := by unfold own_put; split <;> simp
theorem own_digs_len (vv : Int64) : ∀ (k : Nat) (bs : List Int32) (at_ : Nat), (own_digs vv k bs at_).length = bs.length
  | 0, _, _ => rfl
  | k + 1, bs, at_ => by rw [own_digs, own_digs_len vv k, own_put_len]
theorem own_ix : ∀ a : Fin 96, ((Int64.ofNat a.val) / (8 : Int64)).toInt32 = Int32.ofNat (a.val / 8) := by decide +kernel
theorem own_ix' {a : Nat} (h : a < 96) : ((Int64.ofNat a) / (8 : Int64)).toInt32 = Int32.ofNat (a / 8) := own_ix ⟨a, h⟩
theorem own_nat32 {i : Nat} (h : i < 2 ^ 31) : (Int32.ofNat i).toNatClampNeg = i := by
  show (Int32.ofNat i).toInt.toNat = i
  rw [Int32.toInt_ofNat_small h]; rfl
theorem own_inb {i n : Nat} (h : i < n) (hn : n < 2 ^ 31) : ¬ (Int32.ofNat i) < 0 ∧ (Int32.ofNat i) < (Int32.ofNat n) := by
  rw [Int32.lt_iff_toInt_lt, Int32.lt_iff_toInt_lt, Int32.toInt_ofNat_small (by omega), Int32.toInt_ofNat_small hn]
  have : (0 : Int32).toInt = 0 := rfl
  omega
theorem own_getD (bs : List Int32) (i : Nat) : (bs.map Value.int).getD i (.int (0 : Int32)) = .int (bs.getD i 0) := by
  simp only [List.getD_eq_getElem?_getD, List.getElem?_map]
  cases bs[i]? <;> rfl
theorem own_at1 (a : Nat) : (Int64.ofNat a) + (1 : Int64) = Int64.ofNat (a + 1) := by
  rw [Int64.ofNat_add]; rfl
theorem own_bit0 {bit : Int32} {k : Nat} (h : bit.toInt = ((k + 1 : Nat) : Int) - 1) (hk : k < 2 ^ 31) : bit = Int32.ofNat k := by
  apply Int32.toInt_inj.mp
  rw [Int32.toInt_ofNat_small hk]; omega
theorem own_bit1 {k : Nat} (hk : k < 2 ^ 31) : (Int32.ofNat k + (-1 : Int32)).toInt = (k : Int) - 1 := by
  rw [Int32.toInt_add, Int32.toInt_ofNat_small hk]
  show ((k : Int) + -1).bmod _ = _
  rw [Int.bmod_eq_of_le_mul_two] <;> omega
theorem d6_5 : decode prog_23_method_4_code 5 = .ok (.iload 4, 2) := by decide +kernel
theorem d6_7 : decode prog_23_method_4_code 7 = .ok (.ifCond .lt 62, 3) := by decide +kernel
theorem d6_10 : decode prog_23_method_4_code 10 = .ok (.lload_n 1, 1) := by decide +kernel
theorem d6_11 : decode prog_23_method_4_code 11 = .ok (.iload 4, 2) := by decide +kernel
theorem d6_13 : decode prog_23_method_4_code 13 = .ok (.lushr, 1) := by decide +kernel
theorem d6_14 : decode prog_23_method_4_code 14 = .ok (.lconst 1, 1) := by decide +kernel
theorem d6_15 : decode prog_23_method_4_code 15 = .ok (.land, 1) := by decide +kernel
theorem d6_16 : decode prog_23_method_4_code 16 = .ok (.lconst 0, 1) := by decide +kernel
theorem d6_17 : decode prog_23_method_4_code 17 = .ok (.lcmp, 1) := by decide +kernel
theorem d6_18 : decode prog_23_method_4_code 18 = .ok (.ifCond .eq 35, 3) := by decide +kernel
theorem d6_53 : decode prog_23_method_4_code 53 = .ok (.iinc 4 (-1), 3) := by decide +kernel
theorem d6_56 : decode prog_23_method_4_code 56 = .ok (.aload_n 0, 1) := by decide +kernel
theorem d6_57 : decode prog_23_method_4_code 57 = .ok (.dup, 1) := by decide +kernel
theorem d6_58 : decode prog_23_method_4_code 58 = .ok (.getfield 23, 3) := by decide +kernel
theorem d6_61 : decode prog_23_method_4_code 61 = .ok (.lconst 1, 1) := by decide +kernel
theorem d6_62 : decode prog_23_method_4_code 62 = .ok (.ladd, 1) := by decide +kernel
theorem d6_63 : decode prog_23_method_4_code 63 = .ok (.putfield 23, 3) := by decide +kernel
theorem d6_66 : decode prog_23_method_4_code 66 = .ok (.goto (-61), 3) := by decide +kernel
theorem d6_21 : decode prog_23_method_4_code 21 = .ok (.aload_n 0, 1) := by decide +kernel
theorem d6_22 : decode prog_23_method_4_code 22 = .ok (.getfield 7, 3) := by decide +kernel
theorem d6_25 : decode prog_23_method_4_code 25 = .ok (.aload_n 0, 1) := by decide +kernel
theorem d6_26 : decode prog_23_method_4_code 26 = .ok (.getfield 23, 3) := by decide +kernel
theorem d6_29 : decode prog_23_method_4_code 29 = .ok (.ldc2_w 15, 3) := by decide +kernel
theorem d6_32 : decode prog_23_method_4_code 32 = .ok (.ldiv, 1) := by decide +kernel
theorem d6_33 : decode prog_23_method_4_code 33 = .ok (.l2i, 1) := by decide +kernel
theorem d6_34 : decode prog_23_method_4_code 34 = .ok (.dup2, 1) := by decide +kernel
theorem d6_35 : decode prog_23_method_4_code 35 = .ok (.baload, 1) := by decide +kernel
theorem d6_36 : decode prog_23_method_4_code 36 = .ok (.sipush 128, 3) := by decide +kernel
theorem d6_39 : decode prog_23_method_4_code 39 = .ok (.aload_n 0, 1) := by decide +kernel
theorem d6_40 : decode prog_23_method_4_code 40 = .ok (.getfield 23, 3) := by decide +kernel
theorem d6_43 : decode prog_23_method_4_code 43 = .ok (.ldc2_w 15, 3) := by decide +kernel
theorem d6_46 : decode prog_23_method_4_code 46 = .ok (.lrem, 1) := by decide +kernel
theorem d6_47 : decode prog_23_method_4_code 47 = .ok (.l2i, 1) := by decide +kernel
theorem d6_48 : decode prog_23_method_4_code 48 = .ok (.iushr, 1) := by decide +kernel
theorem d6_49 : decode prog_23_method_4_code 49 = .ok (.i2b, 1) := by decide +kernel
theorem d6_50 : decode prog_23_method_4_code 50 = .ok (.ior, 1) := by decide +kernel
theorem d6_51 : decode prog_23_method_4_code 51 = .ok (.i2b, 1) := by decide +kernel
theorem d6_52 : decode prog_23_method_4_code 52 = .ok (.bastore, 1) := by decide +kernel
set_option maxRecDepth 65536 in
set_option maxHeartbeats 40000000 in
theorem own_dloop {p : Program} {l : Launch} {e : Env} {s : State} {m : MethodId} {args : Array Value} {below : List Frame} {meth : Method} {c : Code} {cells slots : Nat} {Z : State} {a0 : Array Value} {n0 : Nat} (hx : p.tables.exec = Jvm.exec) (hZ : Z.Warmed39 s.vm) (hw : ∀ d ∈ tables_1, d.before a0 Z = true) (hby : c.code = prog_23_method_4_code) (hml : c.maxLocals = 5) (hown : s.vm.findClass "com/example/causeline/causeline/core/BitWriter" = some m.cls) (va vb : Addr) (kb : ClassId) (vv : Int64) (cnt nn : Int32) (g_va : n0 ≤ va) (g_vb : n0 ≤ vb) (nab : va ≠ vb) :
    ∀ (k : Nat) (bit : Int32) (at_ : Nat) (bs : List Int32) (T0 : State) (locs : List Loc) (h0 : Heap), Stand p l e ({ frames := 0, cells := 0, slots := 0, locals := 0 } : Room) s m args below meth c T0 locs cells slots → T0.heap = h0 → Fr n0 locs → n0 ≤ h0.size → (bit.toInt = (k : Int) - 1) → (at_ + k < 96) → (at_ + k ≤ 8 * bs.length) → (nn = Int32.ofNat bs.length) → (bs.length < 16) → (Exa Z h0 va "com/example/causeline/causeline/core/BitWriter") → (Fld Z h0 va "com/example/causeline/causeline/core/BitWriter" "bytes" "[B" (.ref vb)) → (Fld Z h0 va "com/example/causeline/causeline/core/BitWriter" "at" "J" (.long (Int64.ofNat at_))) → (Arv Z h0 vb kb .byte nn (bs.map Value.int) (.int (0 : Int32))) → 
      ∃ (T' : State) (h' : Heap) (locs' : List Loc), Stand p l e ({ frames := 0, cells := 0, slots := 0, locals := 0 } : Room) s m args below meth c T' locs' cells slots ∧ T'.heap = h' ∧ Fr n0 locs' ∧ Keep h0 h' [va, vb] ∧ (Exa Z h' va "com/example/causeline/causeline/core/BitWriter") ∧ (Fld Z h' va "com/example/causeline/causeline/core/BitWriter" "bytes" "[B" (.ref vb)) ∧ (Fld Z h' va "com/example/causeline/causeline/core/BitWriter" "at" "J" (.long (Int64.ofNat (at_ + k)))) ∧ (Arv Z h' vb kb .byte nn ((own_digs vv k bs at_).map Value.int) (.int (0 : Int32))) ∧ ∀ t, Steps p.tables e below (T'.setTop (mkF m 69 #[.val (.ref va), .val (.long vv), .second, .val (.int cnt), .val (.int (-1 : Int32))] [])) t → Steps p.tables e below (T0.setTop (mkF m 5 #[.val (.ref va), .val (.long vv), .second, .val (.int cnt), .val (.int bit)] [])) t := by
  intro k
  induction k with
  | zero =>
    intro bit at_ bs T0 locs h0 X0 e0 N0 Z0 hbit hk hl hnn hbl Ea Fb Fat Va
    obtain rfl : bit = (-1 : Int32) := Int32.toInt_inj.mp (by rw [hbit]; rfl)
    have pre0 : ∀ t, Steps p.tables e below (T0.setTop (mkF m 5 #[.val (.ref va), .val (.long vv), .second, .val (.int cnt), .val (.int (-1 : Int32))] [])) t → Steps p.tables e below (T0.setTop (mkF m 5 #[.val (.ref va), .val (.long vv), .second, .val (.int cnt), .val (.int (-1 : Int32))] [])) t := fun t k => k
    have pre1 : ∀ t, Steps p.tables e below (T0.setTop (mkF m 69 #[.val (.ref va), .val (.long vv), .second, .val (.int cnt), .val (.int (-1 : Int32))] [])) t → Steps p.tables e below (T0.setTop (mkF m 5 #[.val (.ref va), .val (.long vv), .second, .val (.int cnt), .val (.int (-1 : Int32))] [])) t := by
      intro t kt
      refine pre0 t ?_
      show Steps p.tables e below (T0.setTop (mkF m 5 #[.val (.ref va), .val (.long vv), .second, .val (.int cnt), .val (.int (-1 : Int32))] [])) _
      refine XS.iload X0.here hx rfl (hb hby d6_5) rfl ?_
      show Steps p.tables e below (T0.setTop (mkF m 7 #[.val (.ref va), .val (.long vv), .second, .val (.int cnt), .val (.int (-1 : Int32))] [(.int (-1 : Int32))])) _
      refine XS.ifYes X0.here hx rfl (pc0 := 7) (pc' := 69) rfl (hb hby d6_7) rfl ((if0 _ _).trans (tlt ((by decide) : (-1 : Int32) < (0 : Int32))).1) (by decide) (by decide) ?_
      exact kt
    exact ⟨T0, h0, _, X0, e0, N0, (Keep.refl h0 [va, vb]), Ea, Fb, Fat, Va, fun t kt => pre1 t kt⟩
  | succ k ih =>
    intro bit at_ bs T0 locs h0 X0 e0 N0 Z0 hbit hk hl hnn hbl Ea Fb Fat Va
    obtain rfl : bit = Int32.ofNat k := own_bit0 hbit (by omega)
    have pre0 : ∀ t, Steps p.tables e below (T0.setTop (mkF m 5 #[.val (.ref va), .val (.long vv), .second, .val (.int cnt), .val (.int (Int32.ofNat k))] [])) t → Steps p.tables e below (T0.setTop (mkF m 5 #[.val (.ref va), .val (.long vv), .second, .val (.int cnt), .val (.int (Int32.ofNat k))] [])) t := fun t k => k
    have pre2 : ∀ t, Steps p.tables e below (T0.setTop (mkF m 18 #[.val (.ref va), .val (.long vv), .second, .val (.int cnt), .val (.int (Int32.ofNat k))] [(.int (lcmpW (((vv.toUInt64 >>> ((Int32.ofNat k) &&& 0x3f).toInt64.toUInt64).toInt64) &&& (1 : Int64)) (0 : Int64)))])) t → Steps p.tables e below (T0.setTop (mkF m 5 #[.val (.ref va), .val (.long vv), .second, .val (.int cnt), .val (.int (Int32.ofNat k))] [])) t := by
      intro t kt
      refine pre0 t ?_
      show Steps p.tables e below (T0.setTop (mkF m 5 #[.val (.ref va), .val (.long vv), .second, .val (.int cnt), .val (.int (Int32.ofNat k))] [])) _
      refine XS.iload X0.here hx rfl (hb hby d6_5) rfl ?_
      show Steps p.tables e below (T0.setTop (mkF m 7 #[.val (.ref va), .val (.long vv), .second, .val (.int cnt), .val (.int (Int32.ofNat k))] [(.int (Int32.ofNat k))])) _
      refine XS.ifNo X0.here hx rfl (hb hby d6_7) rfl ((if0 _ _).trans (flt ((own_inb (n := k + 1) (by omega) (by omega)).1 : ¬ ((Int32.ofNat k) < (0 : Int32)))).1) ?_
      show Steps p.tables e below (T0.setTop (mkF m 10 #[.val (.ref va), .val (.long vv), .second, .val (.int cnt), .val (.int (Int32.ofNat k))] [])) _
      refine XS.lloadN X0.here hx rfl (hb hby d6_10) rfl ?_
      show Steps p.tables e below (T0.setTop (mkF m 11 #[.val (.ref va), .val (.long vv), .second, .val (.int cnt), .val (.int (Int32.ofNat k))] [(.long vv)])) _
      refine XS.iload X0.here hx rfl (hb hby d6_11) rfl ?_
      show Steps p.tables e below (T0.setTop (mkF m 13 #[.val (.ref va), .val (.long vv), .second, .val (.int cnt), .val (.int (Int32.ofNat k))] [(.int (Int32.ofNat k)), (.long vv)])) _
      refine XS.lushr X0.here hx rfl (hb hby d6_13) rfl ?_
      show Steps p.tables e below (T0.setTop (mkF m 14 #[.val (.ref va), .val (.long vv), .second, .val (.int cnt), .val (.int (Int32.ofNat k))] [(.long ((vv.toUInt64 >>> ((Int32.ofNat k) &&& 0x3f).toInt64.toUInt64).toInt64))])) _
      refine XS.lconst X0.here hx rfl (hb hby d6_14) ?_
      show Steps p.tables e below (T0.setTop (mkF m 15 #[.val (.ref va), .val (.long vv), .second, .val (.int cnt), .val (.int (Int32.ofNat k))] [(.long (1 : Int64)), (.long ((vv.toUInt64 >>> ((Int32.ofNat k) &&& 0x3f).toInt64.toUInt64).toInt64))])) _
      refine XS.land X0.here hx rfl (hb hby d6_15) rfl ?_
      show Steps p.tables e below (T0.setTop (mkF m 16 #[.val (.ref va), .val (.long vv), .second, .val (.int cnt), .val (.int (Int32.ofNat k))] [(.long (((vv.toUInt64 >>> ((Int32.ofNat k) &&& 0x3f).toInt64.toUInt64).toInt64) &&& (1 : Int64)))])) _
      refine XS.lconst X0.here hx rfl (hb hby d6_16) ?_
      show Steps p.tables e below (T0.setTop (mkF m 17 #[.val (.ref va), .val (.long vv), .second, .val (.int cnt), .val (.int (Int32.ofNat k))] [(.long (0 : Int64)), (.long (((vv.toUInt64 >>> ((Int32.ofNat k) &&& 0x3f).toInt64.toUInt64).toInt64) &&& (1 : Int64)))])) _
      refine XS.lcmp X0.here hx rfl (hb hby d6_17) rfl ?_
      exact kt
    by_cases hc3 : (((vv.toUInt64 >>> ((Int32.ofNat k) &&& 0x3f).toInt64.toUInt64).toInt64) &&& (1 : Int64)) = (0 : Int64)
    ·
      obtain ⟨T4, X4, e4, st4⟩ := getF X0 hx hZ hown (host := "") (Or.inl (hw _ (List.mem_of_getElem? (i := 28) rfl))) Via.refl e0 Fat (g := (mkF m 58 #[.val (.ref va), .val (.long vv), .second, .val (.int cnt), .val (.int ((Int32.ofNat k) + (-1 : Int32)))] [(.ref va), (.ref va)])) rfl rfl (hb hby d6_58)
      obtain ⟨T5, h5, X5, e5, W5, st5⟩ := putF X4 hx hZ hown (host := "") (Or.inl (hw _ (List.mem_of_getElem? (i := 28) rfl))) Via.refl e4 Fat Ea (Or.inl (hw _ (List.mem_of_getElem? (i := 29) rfl))) (hw _ (List.mem_of_getElem? (i := 12) rfl)) (ty := .long) (by decide) rfl rfl (g := (mkF m 63 #[.val (.ref va), .val (.long vv), .second, .val (.int cnt), .val (.int ((Int32.ofNat k) + (-1 : Int32)))] [(.long ((Int64.ofNat at_) + (1 : Int64))), (.ref va)])) rfl rfl (hb hby d6_63)
      have Fw5 : Fld Z h5 va "com/example/causeline/causeline/core/BitWriter" "at" "J" (.long ((Int64.ofNat at_) + (1 : Int64))) := Fat.same W5
      have c6 : Exa Z h5 va "com/example/causeline/causeline/core/BitWriter" := Ea.wr W5
      have c7 : Fld Z h5 va "com/example/causeline/causeline/core/BitWriter" "bytes" "[B" (.ref vb) := Fb.other W5 (Or.inr (slot_ne (Or.inr (hw _ (List.mem_of_getElem? (i := 22) rfl))) (Or.inl (hw _ (List.mem_of_getElem? (i := 29) rfl))) (by decide) (t := (.array .byte)) (t' := .long) (by decide) (by decide)))
      have c8 : Arv Z h5 vb kb .byte nn (bs.map Value.int) (.int (0 : Int32)) := Va.other W5 (Ne.symm nab)
      have Z5 : n0 ≤ h5.size := Nat.le_trans Z0 (Keep.of_wr W5).1
      have N5 := Fr.snoc X5 N0 g_va
      have K5 : Keep h0 h5 [va, vb] := (Keep.refl h0 [va, vb]).wr W5 (Or.inl (List.mem_of_getElem? (i := 0) rfl))
      have pre9 : ∀ t, Steps p.tables e below (T5.setTop (mkF m 5 #[.val (.ref va), .val (.long vv), .second, .val (.int cnt), .val (.int ((Int32.ofNat k) + (-1 : Int32)))] [])) t → Steps p.tables e below (T0.setTop (mkF m 5 #[.val (.ref va), .val (.long vv), .second, .val (.int cnt), .val (.int (Int32.ofNat k))] [])) t := by
        intro t kt
        refine pre2 t ?_
        show Steps p.tables e below (T0.setTop (mkF m 18 #[.val (.ref va), .val (.long vv), .second, .val (.int cnt), .val (.int (Int32.ofNat k))] [(.int (lcmpW (((vv.toUInt64 >>> ((Int32.ofNat k) &&& 0x3f).toInt64.toUInt64).toInt64) &&& (1 : Int64)) (0 : Int64)))])) _
        refine XS.ifYes X0.here hx rfl (pc0 := 18) (pc' := 53) rfl (hb hby d6_18) rfl ((if0 _ _).trans (teq (((lw_eq _ _).mpr hc3) : (lcmpW (((vv.toUInt64 >>> ((Int32.ofNat k) &&& 0x3f).toInt64.toUInt64).toInt64) &&& (1 : Int64)) (0 : Int64)) = (0 : Int32))).1) (by decide) (by decide) ?_
        show Steps p.tables e below (T0.setTop (mkF m 53 #[.val (.ref va), .val (.long vv), .second, .val (.int cnt), .val (.int (Int32.ofNat k))] [])) _
        refine XS.iinc X0.here hx rfl (hb hby d6_53) rfl (l' := #[.val (.ref va), .val (.long vv), .second, .val (.int cnt), .val (.int ((Int32.ofNat k) + (-1 : Int32)))]) rfl ?_
        show Steps p.tables e below (T0.setTop (mkF m 56 #[.val (.ref va), .val (.long vv), .second, .val (.int cnt), .val (.int ((Int32.ofNat k) + (-1 : Int32)))] [])) _
        refine XS.aloadN X0.here hx rfl (hb hby d6_56) rfl rfl ?_
        show Steps p.tables e below (T0.setTop (mkF m 57 #[.val (.ref va), .val (.long vv), .second, .val (.int cnt), .val (.int ((Int32.ofNat k) + (-1 : Int32)))] [(.ref va)])) _
        refine XS.dup X0.here hx rfl (hb hby d6_57) rfl rfl ?_
        show Steps p.tables e below (T0.setTop (mkF m 58 #[.val (.ref va), .val (.long vv), .second, .val (.int cnt), .val (.int ((Int32.ofNat k) + (-1 : Int32)))] [(.ref va), (.ref va)])) _
        refine st4 _ ?_
        show Steps p.tables e below (T4.setTop (mkF m 61 #[.val (.ref va), .val (.long vv), .second, .val (.int cnt), .val (.int ((Int32.ofNat k) + (-1 : Int32)))] [(.long (Int64.ofNat at_)), (.ref va)])) _
        refine XS.lconst X4.here hx rfl (hb hby d6_61) ?_
        show Steps p.tables e below (T4.setTop (mkF m 62 #[.val (.ref va), .val (.long vv), .second, .val (.int cnt), .val (.int ((Int32.ofNat k) + (-1 : Int32)))] [(.long (1 : Int64)), (.long (Int64.ofNat at_)), (.ref va)])) _
        refine XS.ladd X4.here hx rfl (hb hby d6_62) rfl ?_
        show Steps p.tables e below (T4.setTop (mkF m 63 #[.val (.ref va), .val (.long vv), .second, .val (.int cnt), .val (.int ((Int32.ofNat k) + (-1 : Int32)))] [(.long ((Int64.ofNat at_) + (1 : Int64))), (.ref va)])) _
        refine st5 _ ?_
        show Steps p.tables e below (T5.setTop (mkF m 66 #[.val (.ref va), .val (.long vv), .second, .val (.int cnt), .val (.int ((Int32.ofNat k) + (-1 : Int32)))] [])) _
        refine XS.goto X5.here hx rfl (pc0 := 66) (pc' := 5) rfl (hb hby d6_66) (by decide) (by decide) ?_
        exact kt
      have Fat2 : Fld Z h5 va "com/example/causeline/causeline/core/BitWriter" "at" "J" (.long (Int64.ofNat (at_ + 1))) := (own_at1 at_) ▸ Fw5
      obtain ⟨T10, h10, locs10, X10, e10, N10, K10, po10_0, po10_1, po10_2, po10_3, run10⟩ := ih ((Int32.ofNat k) + (-1 : Int32)) (at_ + 1) (bs) T5 _ h5 X5 e5 N5 Z5 (own_bit1 (by omega)) (by omega) (by omega) (by exact hnn) (by exact hbl) c6 c7 Fat2 c8
      exact ⟨T10, h10, locs10, X10, e10, N10, K5.trans K10 (allS (Or.inl (List.mem_of_getElem? (i := 0) rfl)) (allS (Or.inl (List.mem_of_getElem? (i := 1) rfl)) all0)), po10_0, po10_1, (by have q := po10_2; rw [Nat.add_assoc, Nat.add_comm 1 k] at q; exact q), (by rw [own_digs, own_put, if_pos hc3]; exact po10_3), fun t kt => pre9 t (run10 t kt)⟩
    ·
      obtain ⟨T11, X11, e11, st11⟩ := getF X0 hx hZ hown (host := "") (Or.inl (hw _ (List.mem_of_getElem? (i := 21) rfl))) Via.refl e0 Fb (g := (mkF m 22 #[.val (.ref va), .val (.long vv), .second, .val (.int cnt), .val (.int (Int32.ofNat k))] [(.ref va)])) rfl rfl (hb hby d6_22)
      obtain ⟨T12, X12, e12, st12⟩ := getF X11 hx hZ hown (host := "") (Or.inl (hw _ (List.mem_of_getElem? (i := 28) rfl))) Via.refl e11 Fat (g := (mkF m 26 #[.val (.ref va), .val (.long vv), .second, .val (.int cnt), .val (.int (Int32.ofNat k))] [(.ref va), (.ref vb)])) rfl rfl (hb hby d6_26)
      obtain ⟨cl13, Ar13, q13, S13, NN13, HH13, GG13⟩ := id Va
      have hin13 : ¬ ((((Int64.ofNat at_) / (8 : Int64)).toInt32) < 0 ∨ cl13.slots.size ≤ ((((Int64.ofNat at_) / (8 : Int64)).toInt32)).toNatClampNeg) := inb_of S13 (by rw [own_ix' (by omega), hnn]; exact own_inb (by omega) (by omega))
      have hat13 : cl13.slots[((((Int64.ofNat at_) / (8 : Int64)).toInt32)).toNatClampNeg]? = some (.int (bs.getD (at_ / 8) 0)) := HH13.at hin13 (by rw [own_ix' (by omega), own_nat32 (by omega)]; exact own_getD _ _)
      obtain ⟨T14, X14, e14, st14⟩ := getF X12 hx hZ hown (host := "") (Or.inl (hw _ (List.mem_of_getElem? (i := 28) rfl))) Via.refl e12 Fat (g := (mkF m 40 #[.val (.ref va), .val (.long vv), .second, .val (.int cnt), .val (.int (Int32.ofNat k))] [(.ref va), (.int (128 : Int32)), (.int (bs.getD (at_ / 8) 0)), (.int (((Int64.ofNat at_) / (8 : Int64)).toInt32)), (.ref vb)])) rfl rfl (hb hby d6_40)
      obtain ⟨cl15, Ar15, q15, S15, NN15, HH15, GG15⟩ := id Va
      have hin15 : ¬ ((((Int64.ofNat at_) / (8 : Int64)).toInt32) < 0 ∨ cl15.slots.size ≤ ((((Int64.ofNat at_) / (8 : Int64)).toInt32)).toNatClampNeg) := inb_of S15 (by rw [own_ix' (by omega), hnn]; exact own_inb (by omega) (by omega))
      obtain ⟨T16, h16, X16, e16, W16, st16⟩ := stB X14 hx hZ e14 Ar15 (j := (((Int64.ofNat at_) / (8 : Int64)).toInt32)) hin15  (g := (mkF m 52 #[.val (.ref va), .val (.long vv), .second, .val (.int cnt), .val (.int (Int32.ofNat k))] [(.int (((bs.getD (at_ / 8) 0) ||| ((((128 : Int32).toUInt32 >>> ((((Int64.ofNat at_) % (8 : Int64)).toInt32) &&& 31).toUInt32).toInt32).toInt8.toInt32)).toInt8.toInt32)), (.int (((Int64.ofNat at_) / (8 : Int64)).toInt32)), (.ref vb)])) rfl rfl (hb hby d6_52)
      have V16 : Arv Z h16 vb kb .byte nn ((bs.set (at_ / 8) (own_byte (bs.getD (at_ / 8) 0) at_)).map Value.int) (.int (0 : Int32)) := by rw [List.map_set]; exact (Arv.set Ar15 q15 S15 NN15 HH15 GG15 (fits_nar_byte _) W16 (at_ / 8) (by rw [own_ix' (by omega), own_nat32 (by omega)]) (by rw [List.length_map]; omega))
      have c17 : Exa Z h16 va "com/example/causeline/causeline/core/BitWriter" := Ea.wr W16
      have c18 : Fld Z h16 va "com/example/causeline/causeline/core/BitWriter" "bytes" "[B" (.ref vb) := Fb.other W16 (Or.inl nab)
      have c19 : Fld Z h16 va "com/example/causeline/causeline/core/BitWriter" "at" "J" (.long (Int64.ofNat at_)) := Fat.other W16 (Or.inl nab)
      have Z16 : n0 ≤ h16.size := Nat.le_trans Z0 (Keep.of_wr W16).1
      have N16 := Fr.snoc X16 N0 g_vb
      have K16 : Keep h0 h16 [va, vb] := (Keep.refl h0 [va, vb]).wr W16 (Or.inl (List.mem_of_getElem? (i := 1) rfl))
      obtain ⟨T20, X20, e20, st20⟩ := getF X16 hx hZ hown (host := "") (Or.inl (hw _ (List.mem_of_getElem? (i := 28) rfl))) Via.refl e16 c19 (g := (mkF m 58 #[.val (.ref va), .val (.long vv), .second, .val (.int cnt), .val (.int ((Int32.ofNat k) + (-1 : Int32)))] [(.ref va), (.ref va)])) rfl rfl (hb hby d6_58)
      obtain ⟨T21, h21, X21, e21, W21, st21⟩ := putF X20 hx hZ hown (host := "") (Or.inl (hw _ (List.mem_of_getElem? (i := 28) rfl))) Via.refl e20 c19 c17 (Or.inl (hw _ (List.mem_of_getElem? (i := 29) rfl))) (hw _ (List.mem_of_getElem? (i := 12) rfl)) (ty := .long) (by decide) rfl rfl (g := (mkF m 63 #[.val (.ref va), .val (.long vv), .second, .val (.int cnt), .val (.int ((Int32.ofNat k) + (-1 : Int32)))] [(.long ((Int64.ofNat at_) + (1 : Int64))), (.ref va)])) rfl rfl (hb hby d6_63)
      have Fw21 : Fld Z h21 va "com/example/causeline/causeline/core/BitWriter" "at" "J" (.long ((Int64.ofNat at_) + (1 : Int64))) := c19.same W21
      have c22 : Exa Z h21 va "com/example/causeline/causeline/core/BitWriter" := c17.wr W21
      have c23 : Fld Z h21 va "com/example/causeline/causeline/core/BitWriter" "bytes" "[B" (.ref vb) := c18.other W21 (Or.inr (slot_ne (Or.inr (hw _ (List.mem_of_getElem? (i := 22) rfl))) (Or.inl (hw _ (List.mem_of_getElem? (i := 29) rfl))) (by decide) (t := (.array .byte)) (t' := .long) (by decide) (by decide)))
      have c24 : Arv Z h21 vb kb .byte nn ((bs.set (at_ / 8) (own_byte (bs.getD (at_ / 8) 0) at_)).map Value.int) (.int (0 : Int32)) := V16.other W21 (Ne.symm nab)
      have Z21 : n0 ≤ h21.size := Nat.le_trans Z16 (Keep.of_wr W21).1
      have N21 := Fr.snoc X21 N16 g_va
      have K21 : Keep h0 h21 [va, vb] := K16.wr W21 (Or.inl (List.mem_of_getElem? (i := 0) rfl))
      have pre25 : ∀ t, Steps p.tables e below (T21.setTop (mkF m 5 #[.val (.ref va), .val (.long vv), .second, .val (.int cnt), .val (.int ((Int32.ofNat k) + (-1 : Int32)))] [])) t → Steps p.tables e below (T0.setTop (mkF m 5 #[.val (.ref va), .val (.long vv), .second, .val (.int cnt), .val (.int (Int32.ofNat k))] [])) t := by
        intro t kt
        refine pre2 t ?_
        show Steps p.tables e below (T0.setTop (mkF m 18 #[.val (.ref va), .val (.long vv), .second, .val (.int cnt), .val (.int (Int32.ofNat k))] [(.int (lcmpW (((vv.toUInt64 >>> ((Int32.ofNat k) &&& 0x3f).toInt64.toUInt64).toInt64) &&& (1 : Int64)) (0 : Int64)))])) _
        refine XS.ifNo X0.here hx rfl (hb hby d6_18) rfl ((if0 _ _).trans (feq ((fun q => hc3 ((lw_eq _ _).mp q)) : ¬ ((lcmpW (((vv.toUInt64 >>> ((Int32.ofNat k) &&& 0x3f).toInt64.toUInt64).toInt64) &&& (1 : Int64)) (0 : Int64)) = (0 : Int32)))).1) ?_
        show Steps p.tables e below (T0.setTop (mkF m 21 #[.val (.ref va), .val (.long vv), .second, .val (.int cnt), .val (.int (Int32.ofNat k))] [])) _
        refine XS.aloadN X0.here hx rfl (hb hby d6_21) rfl rfl ?_
        show Steps p.tables e below (T0.setTop (mkF m 22 #[.val (.ref va), .val (.long vv), .second, .val (.int cnt), .val (.int (Int32.ofNat k))] [(.ref va)])) _
        refine st11 _ ?_
        show Steps p.tables e below (T11.setTop (mkF m 25 #[.val (.ref va), .val (.long vv), .second, .val (.int cnt), .val (.int (Int32.ofNat k))] [(.ref vb)])) _
        refine XS.aloadN X11.here hx rfl (hb hby d6_25) rfl rfl ?_
        show Steps p.tables e below (T11.setTop (mkF m 26 #[.val (.ref va), .val (.long vv), .second, .val (.int cnt), .val (.int (Int32.ofNat k))] [(.ref va), (.ref vb)])) _
        refine st12 _ ?_
        show Steps p.tables e below (T12.setTop (mkF m 29 #[.val (.ref va), .val (.long vv), .second, .val (.int cnt), .val (.int (Int32.ofNat k))] [(.long (Int64.ofNat at_)), (.ref vb)])) _
        refine X12.ldc2J hx hown (mvT hZ (hw _ (List.mem_of_getElem? (i := 30) rfl))) (g := (mkF m 29 #[.val (.ref va), .val (.long vv), .second, .val (.int cnt), .val (.int (Int32.ofNat k))] [(.long (Int64.ofNat at_)), (.ref vb)])) rfl (hb hby d6_29) ?_
        show Steps p.tables e below (T12.setTop (mkF m 32 #[.val (.ref va), .val (.long vv), .second, .val (.int cnt), .val (.int (Int32.ofNat k))] [(.long (8 : Int64)), (.long (Int64.ofNat at_)), (.ref vb)])) _
        refine XS.ldiv X12.here hx rfl (hb hby d6_32) rfl (by decide) ?_
        show Steps p.tables e below (T12.setTop (mkF m 33 #[.val (.ref va), .val (.long vv), .second, .val (.int cnt), .val (.int (Int32.ofNat k))] [(.long ((Int64.ofNat at_) / (8 : Int64))), (.ref vb)])) _
        refine XS.l2i X12.here hx rfl (hb hby d6_33) rfl ?_
        show Steps p.tables e below (T12.setTop (mkF m 34 #[.val (.ref va), .val (.long vv), .second, .val (.int cnt), .val (.int (Int32.ofNat k))] [(.int (((Int64.ofNat at_) / (8 : Int64)).toInt32)), (.ref vb)])) _
        refine XT.dup2 X12.here hx rfl (hb hby d6_34) rfl rfl rfl ?_
        show Steps p.tables e below (T12.setTop (mkF m 35 #[.val (.ref va), .val (.long vv), .second, .val (.int cnt), .val (.int (Int32.ofNat k))] [(.int (((Int64.ofNat at_) / (8 : Int64)).toInt32)), (.ref vb), (.int (((Int64.ofNat at_) / (8 : Int64)).toInt32)), (.ref vb)])) _
        refine X12.baloadBytes hx (j := (((Int64.ofNat at_) / (8 : Int64)).toInt32)) (v := (.int (bs.getD (at_ / 8) 0))) (by rw [e12]; exact Ar13.1) (State.isArrayOf_alike hZ.alike Ar13.2.1) Ar13.2.2 hin13 hat13 (g := (mkF m 35 #[.val (.ref va), .val (.long vv), .second, .val (.int cnt), .val (.int (Int32.ofNat k))] [(.int (((Int64.ofNat at_) / (8 : Int64)).toInt32)), (.ref vb), (.int (((Int64.ofNat at_) / (8 : Int64)).toInt32)), (.ref vb)])) rfl rfl (hb hby d6_35) _ ?_
        show Steps p.tables e below (T12.setTop (mkF m 36 #[.val (.ref va), .val (.long vv), .second, .val (.int cnt), .val (.int (Int32.ofNat k))] [(.int (bs.getD (at_ / 8) 0)), (.int (((Int64.ofNat at_) / (8 : Int64)).toInt32)), (.ref vb)])) _
        refine XS.sipush X12.here hx rfl (hb hby d6_36) ?_
        show Steps p.tables e below (T12.setTop (mkF m 39 #[.val (.ref va), .val (.long vv), .second, .val (.int cnt), .val (.int (Int32.ofNat k))] [(.int (128 : Int32)), (.int (bs.getD (at_ / 8) 0)), (.int (((Int64.ofNat at_) / (8 : Int64)).toInt32)), (.ref vb)])) _
        refine XS.aloadN X12.here hx rfl (hb hby d6_39) rfl rfl ?_
        show Steps p.tables e below (T12.setTop (mkF m 40 #[.val (.ref va), .val (.long vv), .second, .val (.int cnt), .val (.int (Int32.ofNat k))] [(.ref va), (.int (128 : Int32)), (.int (bs.getD (at_ / 8) 0)), (.int (((Int64.ofNat at_) / (8 : Int64)).toInt32)), (.ref vb)])) _
        refine st14 _ ?_
        show Steps p.tables e below (T14.setTop (mkF m 43 #[.val (.ref va), .val (.long vv), .second, .val (.int cnt), .val (.int (Int32.ofNat k))] [(.long (Int64.ofNat at_)), (.int (128 : Int32)), (.int (bs.getD (at_ / 8) 0)), (.int (((Int64.ofNat at_) / (8 : Int64)).toInt32)), (.ref vb)])) _
        refine X14.ldc2J hx hown (mvT hZ (hw _ (List.mem_of_getElem? (i := 30) rfl))) (g := (mkF m 43 #[.val (.ref va), .val (.long vv), .second, .val (.int cnt), .val (.int (Int32.ofNat k))] [(.long (Int64.ofNat at_)), (.int (128 : Int32)), (.int (bs.getD (at_ / 8) 0)), (.int (((Int64.ofNat at_) / (8 : Int64)).toInt32)), (.ref vb)])) rfl (hb hby d6_43) ?_
        show Steps p.tables e below (T14.setTop (mkF m 46 #[.val (.ref va), .val (.long vv), .second, .val (.int cnt), .val (.int (Int32.ofNat k))] [(.long (8 : Int64)), (.long (Int64.ofNat at_)), (.int (128 : Int32)), (.int (bs.getD (at_ / 8) 0)), (.int (((Int64.ofNat at_) / (8 : Int64)).toInt32)), (.ref vb)])) _
        refine own_lremM X14 hx rfl (hb hby d6_46) rfl (by decide) ?_
        show Steps p.tables e below (T14.setTop (mkF m 47 #[.val (.ref va), .val (.long vv), .second, .val (.int cnt), .val (.int (Int32.ofNat k))] [(.long ((Int64.ofNat at_) % (8 : Int64))), (.int (128 : Int32)), (.int (bs.getD (at_ / 8) 0)), (.int (((Int64.ofNat at_) / (8 : Int64)).toInt32)), (.ref vb)])) _
        refine XS.l2i X14.here hx rfl (hb hby d6_47) rfl ?_
        show Steps p.tables e below (T14.setTop (mkF m 48 #[.val (.ref va), .val (.long vv), .second, .val (.int cnt), .val (.int (Int32.ofNat k))] [(.int (((Int64.ofNat at_) % (8 : Int64)).toInt32)), (.int (128 : Int32)), (.int (bs.getD (at_ / 8) 0)), (.int (((Int64.ofNat at_) / (8 : Int64)).toInt32)), (.ref vb)])) _
        refine XS.iushr X14.here hx rfl (hb hby d6_48) rfl ?_
        show Steps p.tables e below (T14.setTop (mkF m 49 #[.val (.ref va), .val (.long vv), .second, .val (.int cnt), .val (.int (Int32.ofNat k))] [(.int (((128 : Int32).toUInt32 >>> ((((Int64.ofNat at_) % (8 : Int64)).toInt32) &&& 31).toUInt32).toInt32)), (.int (bs.getD (at_ / 8) 0)), (.int (((Int64.ofNat at_) / (8 : Int64)).toInt32)), (.ref vb)])) _
        refine XS.i2b X14.here hx rfl (hb hby d6_49) rfl ?_
        show Steps p.tables e below (T14.setTop (mkF m 50 #[.val (.ref va), .val (.long vv), .second, .val (.int cnt), .val (.int (Int32.ofNat k))] [(.int ((((128 : Int32).toUInt32 >>> ((((Int64.ofNat at_) % (8 : Int64)).toInt32) &&& 31).toUInt32).toInt32).toInt8.toInt32)), (.int (bs.getD (at_ / 8) 0)), (.int (((Int64.ofNat at_) / (8 : Int64)).toInt32)), (.ref vb)])) _
        refine XS.ior X14.here hx rfl (hb hby d6_50) rfl ?_
        show Steps p.tables e below (T14.setTop (mkF m 51 #[.val (.ref va), .val (.long vv), .second, .val (.int cnt), .val (.int (Int32.ofNat k))] [(.int ((bs.getD (at_ / 8) 0) ||| ((((128 : Int32).toUInt32 >>> ((((Int64.ofNat at_) % (8 : Int64)).toInt32) &&& 31).toUInt32).toInt32).toInt8.toInt32))), (.int (((Int64.ofNat at_) / (8 : Int64)).toInt32)), (.ref vb)])) _
        refine XS.i2b X14.here hx rfl (hb hby d6_51) rfl ?_
        show Steps p.tables e below (T14.setTop (mkF m 52 #[.val (.ref va), .val (.long vv), .second, .val (.int cnt), .val (.int (Int32.ofNat k))] [(.int (((bs.getD (at_ / 8) 0) ||| ((((128 : Int32).toUInt32 >>> ((((Int64.ofNat at_) % (8 : Int64)).toInt32) &&& 31).toUInt32).toInt32).toInt8.toInt32)).toInt8.toInt32)), (.int (((Int64.ofNat at_) / (8 : Int64)).toInt32)), (.ref vb)])) _
        refine st16 _ ?_
        show Steps p.tables e below (T16.setTop (mkF m 53 #[.val (.ref va), .val (.long vv), .second, .val (.int cnt), .val (.int (Int32.ofNat k))] [])) _
        refine XS.iinc X16.here hx rfl (hb hby d6_53) rfl (l' := #[.val (.ref va), .val (.long vv), .second, .val (.int cnt), .val (.int ((Int32.ofNat k) + (-1 : Int32)))]) rfl ?_
        show Steps p.tables e below (T16.setTop (mkF m 56 #[.val (.ref va), .val (.long vv), .second, .val (.int cnt), .val (.int ((Int32.ofNat k) + (-1 : Int32)))] [])) _
        refine XS.aloadN X16.here hx rfl (hb hby d6_56) rfl rfl ?_
        show Steps p.tables e below (T16.setTop (mkF m 57 #[.val (.ref va), .val (.long vv), .second, .val (.int cnt), .val (.int ((Int32.ofNat k) + (-1 : Int32)))] [(.ref va)])) _
        refine XS.dup X16.here hx rfl (hb hby d6_57) rfl rfl ?_
        show Steps p.tables e below (T16.setTop (mkF m 58 #[.val (.ref va), .val (.long vv), .second, .val (.int cnt), .val (.int ((Int32.ofNat k) + (-1 : Int32)))] [(.ref va), (.ref va)])) _
        refine st20 _ ?_
        show Steps p.tables e below (T20.setTop (mkF m 61 #[.val (.ref va), .val (.long vv), .second, .val (.int cnt), .val (.int ((Int32.ofNat k) + (-1 : Int32)))] [(.long (Int64.ofNat at_)), (.ref va)])) _
        refine XS.lconst X20.here hx rfl (hb hby d6_61) ?_
        show Steps p.tables e below (T20.setTop (mkF m 62 #[.val (.ref va), .val (.long vv), .second, .val (.int cnt), .val (.int ((Int32.ofNat k) + (-1 : Int32)))] [(.long (1 : Int64)), (.long (Int64.ofNat at_)), (.ref va)])) _
        refine XS.ladd X20.here hx rfl (hb hby d6_62) rfl ?_
        show Steps p.tables e below (T20.setTop (mkF m 63 #[.val (.ref va), .val (.long vv), .second, .val (.int cnt), .val (.int ((Int32.ofNat k) + (-1 : Int32)))] [(.long ((Int64.ofNat at_) + (1 : Int64))), (.ref va)])) _
        refine st21 _ ?_
        show Steps p.tables e below (T21.setTop (mkF m 66 #[.val (.ref va), .val (.long vv), .second, .val (.int cnt), .val (.int ((Int32.ofNat k) + (-1 : Int32)))] [])) _
        refine XS.goto X21.here hx rfl (pc0 := 66) (pc' := 5) rfl (hb hby d6_66) (by decide) (by decide) ?_
        exact kt
      have Fat2 : Fld Z h21 va "com/example/causeline/causeline/core/BitWriter" "at" "J" (.long (Int64.ofNat (at_ + 1))) := (own_at1 at_) ▸ Fw21
      obtain ⟨T26, h26, locs26, X26, e26, N26, K26, po26_0, po26_1, po26_2, po26_3, run26⟩ := ih ((Int32.ofNat k) + (-1 : Int32)) (at_ + 1) (bs.set (at_ / 8) (own_byte (bs.getD (at_ / 8) 0) at_)) T21 _ h21 X21 e21 N21 Z21 (own_bit1 (by omega)) (by omega) (by rw [List.length_set]; omega) (by rw [List.length_set]; exact hnn) (by rw [List.length_set]; exact hbl) c22 c23 Fat2 c24
      exact ⟨T26, h26, locs26, X26, e26, N26, K21.trans K26 (allS (Or.inl (List.mem_of_getElem? (i := 0) rfl)) (allS (Or.inl (List.mem_of_getElem? (i := 1) rfl)) all0)), po26_0, po26_1, (by have q := po26_2; rw [Nat.add_assoc, Nat.add_comm 1 k] at q; exact q), (by rw [own_digs, own_put, if_neg hc3]; exact po26_3), fun t kt => pre25 t (run26 t kt)⟩
theorem own_bitn {vn : Int32} {kc : Nat} (h : vn = Int32.ofNat kc) (hk : kc < 2 ^ 31) : (vn - (1 : Int32)).toInt = (kc : Int) - 1 := by
  rw [h, Int32.toInt_sub, Int32.toInt_ofNat_small hk]
  show ((kc : Int) - 1).bmod _ = _
  rw [Int.bmod_eq_of_le_mul_two] <;> omega
theorem d6_0 : decode prog_23_method_4_code 0 = .ok (.iload_n 3, 1) := by decide +kernel
theorem d6_1 : decode prog_23_method_4_code 1 = .ok (.iconst 1, 1) := by decide +kernel
theorem d6_2 : decode prog_23_method_4_code 2 = .ok (.isub, 1) := by decide +kernel
theorem d6_3 : decode prog_23_method_4_code 3 = .ok (.istore 4, 2) := by decide +kernel
theorem d6_69 : decode prog_23_method_4_code 69 = .ok (.return_, 1) := by decide +kernel
theorem ef_rm6 (m : MethodId) (x0 : Addr) (x1 : Int64) (x2 : Int32) : entryFrame m #[(.ref x0), (.long x1), (.int x2)] 5 = mkF m 0 #[.val (.ref x0), .val (.long x1), .second, .val (.int x2), .unset] [] := by first | (simp [entryFrame, mkF, argsToLocals, Value.category]; done) | rfl
def Q6 (Z : State) (va : Addr) (vv : Int64) (vn : Int32) (vb : Addr) (kb : ClassId) (nn : Int32) (at_ : Nat) (kc : Nat) (bs : List Int32) (h0 : Heap) (n0 : Nat) (v : Option Value) (h : Heap) (L : List Loc) : Prop := v = none ∧ Fr n0 L ∧ Keep h0 h [va, vb] ∧ Exa Z h va "com/example/causeline/causeline/core/BitWriter" ∧ Fld Z h va "com/example/causeline/causeline/core/BitWriter" "bytes" "[B" (.ref vb) ∧ Fld Z h va "com/example/causeline/causeline/core/BitWriter" "at" "J" (.long (Int64.ofNat (at_ + kc))) ∧ Arv Z h vb kb .byte nn ((own_digs vv kc bs at_).map Value.int) (.int (0 : Int32))
set_option maxRecDepth 65536 in
set_option maxHeartbeats 40000000 in
theorem rm6 (l : Launch) (Z : State) (a0 : Array Value) (hw : ∀ d ∈ tables_1, d.before a0 Z = true) (ws : List Jvm.Cond) (va : Addr) (vv : Int64) (vn : Int32) (vb : Addr) (kb : ClassId) (nn : Int32) (at_ : Nat) (kc : Nat) (bs : List Int32) (h0 : Heap) (n0 : Nat) (Z0 : n0 ≤ h0.size) (Ea : Exa Z h0 va "com/example/causeline/causeline/core/BitWriter") (Fb : Fld Z h0 va "com/example/causeline/causeline/core/BitWriter" "bytes" "[B" (.ref vb)) (Fat : Fld Z h0 va "com/example/causeline/causeline/core/BitWriter" "at" "J" (.long (Int64.ofNat at_))) (Va : Arv Z h0 vb kb .byte nn (bs.map Value.int) (.int (0 : Int32))) (g_va : n0 ≤ va) (g_vb : n0 ≤ vb) (nab : va ≠ vb) (hvn : vn = Int32.ofNat kc) (hk : at_ + kc < 96) (hl : at_ + kc ≤ 8 * bs.length) (hnn : nn = Int32.ofNat bs.length) (hbl : bs.length < 16) :
    MetFree l (⟨"com/example/causeline/causeline/core/BitWriter", "digits", "(JI)V"⟩ : MethodName) (head1 (Jvm.Cond.code (⟨"com/example/causeline/causeline/core/BitWriter", "digits", "(JI)V"⟩ : MethodName) prog_23_method_4_code 5 none :: ws) ({ frames := 0, cells := 0, slots := 0, locals := 0 } : Room)) (fun a U => a = #[(.ref va), (.long vv), (.int vn)] ∧ Z.Warmed39 U.vm ∧ U.heap = h0) (fun _ _ _ _ _ => True) (fun _ U o U' => ∃ v L, o = .returned v ∧ Q6 Z va vv vn vb kb nn at_ kc bs h0 n0 v U'.heap L ∧ FrameEnd U o U' L ({ frames := 0, cells := 0, slots := 0, locals := 0 } : Room).cells ({ frames := 0, cells := 0, slots := 0, locals := 0 } : Room).slots) := by
  refine MetFree.of_bodySF (plainFor_of_name pn_72) hisR ?_
  intro p e s m args below meth c s₁ Bd hml0 hP hK
  obtain ⟨rfl, hZ, hh⟩ := hP
  have hx := Bd.exec
  have hby := Bd.bytes
  have hml : c.maxLocals = 5 := hml0
  have hown : s.vm.findClass "com/example/causeline/causeline/core/BitWriter" = some m.cls := findClass_of_methodNamed Bd.named
  have hnm := (name_of_methodNamed Bd.named Bd.method).1
  have X0 : Stand p l e ({ frames := 0, cells := 0, slots := 0, locals := 0 } : Room) s m #[(.ref va), (.long vv), (.int vn)] below meth c s₁ [] 0 0 := Stand.of_body Bd
  have e0 : s₁.heap = h0 := by rw [← hh, Bd.state]; rfl
  have N0 := Fr.nil n0
  have pre0 : ∀ t, Steps p.tables e below (s₁.setTop (mkF m 0 #[.val (.ref va), .val (.long vv), .second, .val (.int vn), .unset] [])) t → Steps p.tables e below (s₁.setTop (entryFrame m #[(.ref va), (.long vv), (.int vn)] 5)) t := fun t k => castTop (ef_rm6 m va vv vn) k
  have pre1 : ∀ t, Steps p.tables e below (s₁.setTop (mkF m 5 #[.val (.ref va), .val (.long vv), .second, .val (.int vn), .val (.int (vn - (1 : Int32)))] [])) t → Steps p.tables e below (s₁.setTop (entryFrame m #[(.ref va), (.long vv), (.int vn)] 5)) t := by
    intro t kt
    refine pre0 t ?_
    show Steps p.tables e below (s₁.setTop (mkF m 0 #[.val (.ref va), .val (.long vv), .second, .val (.int vn), .unset] [])) _
    refine XS.iloadN X0.here hx rfl (hb hby d6_0) rfl ?_
    show Steps p.tables e below (s₁.setTop (mkF m 1 #[.val (.ref va), .val (.long vv), .second, .val (.int vn), .unset] [(.int vn)])) _
    refine XS.iconst X0.here hx rfl (hb hby d6_1) ?_
    show Steps p.tables e below (s₁.setTop (mkF m 2 #[.val (.ref va), .val (.long vv), .second, .val (.int vn), .unset] [(.int (1 : Int32)), (.int vn)])) _
    refine XS.isub X0.here hx rfl (hb hby d6_2) rfl ?_
    show Steps p.tables e below (s₁.setTop (mkF m 3 #[.val (.ref va), .val (.long vv), .second, .val (.int vn), .unset] [(.int (vn - (1 : Int32)))])) _
    refine XS.istore X0.here hx rfl (hb hby d6_3) rfl (l' := #[.val (.ref va), .val (.long vv), .second, .val (.int vn), .val (.int (vn - (1 : Int32)))]) rfl ?_
    exact kt
  obtain ⟨T2, h2, L2, X2, e2, N2, K2, p2_0, p2_1, p2_2, p2_3, run2⟩ := own_dloop hx hZ hw hby hml hown va vb kb vv vn nn g_va g_vb nab kc (vn - (1 : Int32)) at_ bs s₁ _ h0 X0 e0 N0 Z0 (own_bitn hvn (by omega)) hk hl hnn hbl Ea Fb Fat Va
  obtain ⟨fs, hr, hrun, hended, hW, hsame⟩ := X2.leave (v := none) (fun _ => rfl)
  refine ⟨_, _, pre1 _ ?_, hrun, hended, _, _, rfl, ?_, ⟨_, rfl⟩, hW, hsame.mono (by decide) (by decide)⟩
  ·
    show Steps p.tables e below (s₁.setTop (mkF m 5 #[.val (.ref va), .val (.long vv), .second, .val (.int vn), .val (.int (vn - (1 : Int32)))] [])) _
    refine run2 _ ?_
    show Steps p.tables e below (T2.setTop (mkF m 69 #[.val (.ref va), .val (.long vv), .second, .val (.int vn), .val (.int (-1 : Int32))] [])) _
    exact X2.returnOut hx Bd.returns (hb hby d6_69) hr
  ·
    show Q6 Z va vv vn vb kb nn at_ kc bs h0 n0 _ T2.heap _
    rw [e2]
    exact ⟨rfl, N2, K2, p2_0, p2_1, p2_2, p2_3⟩
theorem d7_0 : decode prog_23_method_3_code 0 = .ok (.aload_n 0, 1) := by decide +kernel
theorem d7_1 : decode prog_23_method_3_code 1 = .ok (.dup, 1) := by decide +kernel
theorem d7_2 : decode prog_23_method_3_code 2 = .ok (.getfield 23, 3) := by decide +kernel
theorem d7_5 : decode prog_23_method_3_code 5 = .ok (.lload_n 1, 1) := by decide +kernel
theorem d7_6 : decode prog_23_method_3_code 6 = .ok (.ladd, 1) := by decide +kernel
theorem d7_7 : decode prog_23_method_3_code 7 = .ok (.putfield 23, 3) := by decide +kernel
theorem d7_10 : decode prog_23_method_3_code 10 = .ok (.return_, 1) := by decide +kernel
theorem ef_rm7 (m : MethodId) (x0 : Addr) (x1 : Int64) : entryFrame m #[(.ref x0), (.long x1)] 3 = mkF m 0 #[.val (.ref x0), .val (.long x1), .second] [] := by first | (simp [entryFrame, mkF, argsToLocals, Value.category]; done) | rfl
def Q7 (Z : State) (va : Addr) (vn : Int64) (vb : Addr) (at_ : Nat) (gn : Nat) (h0 : Heap) (n0 : Nat) (v : Option Value) (h : Heap) (L : List Loc) : Prop := v = none ∧ Fr n0 L ∧ Keep h0 h [va] ∧ Exa Z h va "com/example/causeline/causeline/core/BitWriter" ∧ Fld Z h va "com/example/causeline/causeline/core/BitWriter" "bytes" "[B" (.ref vb) ∧ Fld Z h va "com/example/causeline/causeline/core/BitWriter" "at" "J" (.long (Int64.ofNat (at_ + gn)))
set_option maxRecDepth 65536 in
set_option maxHeartbeats 40000000 in
theorem rm7 (l : Launch) (Z : State) (a0 : Array Value) (hw : ∀ d ∈ tables_1, d.before a0 Z = true) (ws : List Jvm.Cond) (va : Addr) (vn : Int64) (vb : Addr) (at_ : Nat) (gn : Nat) (h0 : Heap) (n0 : Nat) (Z0 : n0 ≤ h0.size) (Ea : Exa Z h0 va "com/example/causeline/causeline/core/BitWriter") (Fb : Fld Z h0 va "com/example/causeline/causeline/core/BitWriter" "bytes" "[B" (.ref vb)) (Fat : Fld Z h0 va "com/example/causeline/causeline/core/BitWriter" "at" "J" (.long (Int64.ofNat at_))) (g_va : n0 ≤ va) (hvn : vn = Int64.ofNat gn) :
    MetFree l (⟨"com/example/causeline/causeline/core/BitWriter", "zeros", "(J)V"⟩ : MethodName) (head1 (Jvm.Cond.code (⟨"com/example/causeline/causeline/core/BitWriter", "zeros", "(J)V"⟩ : MethodName) prog_23_method_3_code 3 none :: ws) ({ frames := 0, cells := 0, slots := 0, locals := 0 } : Room)) (fun a U => a = #[(.ref va), (.long vn)] ∧ Z.Warmed39 U.vm ∧ U.heap = h0) (fun _ _ _ _ _ => True) (fun _ U o U' => ∃ v L, o = .returned v ∧ Q7 Z va vn vb at_ gn h0 n0 v U'.heap L ∧ FrameEnd U o U' L ({ frames := 0, cells := 0, slots := 0, locals := 0 } : Room).cells ({ frames := 0, cells := 0, slots := 0, locals := 0 } : Room).slots) := by
  refine MetFree.of_bodySF (plainFor_of_name pn_72) hisR ?_
  intro p e s m args below meth c s₁ Bd hml0 hP hK
  obtain ⟨rfl, hZ, hh⟩ := hP
  have hx := Bd.exec
  have hby := Bd.bytes
  have hml : c.maxLocals = 3 := hml0
  have hown : s.vm.findClass "com/example/causeline/causeline/core/BitWriter" = some m.cls := findClass_of_methodNamed Bd.named
  have hnm := (name_of_methodNamed Bd.named Bd.method).1
  have X0 : Stand p l e ({ frames := 0, cells := 0, slots := 0, locals := 0 } : Room) s m #[(.ref va), (.long vn)] below meth c s₁ [] 0 0 := Stand.of_body Bd
  have e0 : s₁.heap = h0 := by rw [← hh, Bd.state]; rfl
  have N0 := Fr.nil n0
  have pre0 : ∀ t, Steps p.tables e below (s₁.setTop (mkF m 0 #[.val (.ref va), .val (.long vn), .second] [])) t → Steps p.tables e below (s₁.setTop (entryFrame m #[(.ref va), (.long vn)] 3)) t := fun t k => castTop (ef_rm7 m va vn) k
  obtain ⟨T1, X1, e1, st1⟩ := getF X0 hx hZ hown (host := "") (Or.inl (hw _ (List.mem_of_getElem? (i := 28) rfl))) Via.refl e0 Fat (g := (mkF m 2 #[.val (.ref va), .val (.long vn), .second] [(.ref va), (.ref va)])) rfl rfl (hb hby d7_2)
  obtain ⟨T2, h2, X2, e2, W2, st2⟩ := putF X1 hx hZ hown (host := "") (Or.inl (hw _ (List.mem_of_getElem? (i := 28) rfl))) Via.refl e1 Fat Ea (Or.inl (hw _ (List.mem_of_getElem? (i := 29) rfl))) (hw _ (List.mem_of_getElem? (i := 12) rfl)) (ty := .long) (by decide) rfl rfl (g := (mkF m 7 #[.val (.ref va), .val (.long vn), .second] [(.long ((Int64.ofNat at_) + vn)), (.ref va)])) rfl rfl (hb hby d7_7)
  have Fw2 : Fld Z h2 va "com/example/causeline/causeline/core/BitWriter" "at" "J" (.long ((Int64.ofNat at_) + vn)) := Fat.same W2
  have c3 : Exa Z h2 va "com/example/causeline/causeline/core/BitWriter" := Ea.wr W2
  have c4 : Fld Z h2 va "com/example/causeline/causeline/core/BitWriter" "bytes" "[B" (.ref vb) := Fb.other W2 (Or.inr (slot_ne (Or.inr (hw _ (List.mem_of_getElem? (i := 22) rfl))) (Or.inl (hw _ (List.mem_of_getElem? (i := 29) rfl))) (by decide) (t := (.array .byte)) (t' := .long) (by decide) (by decide)))
  have Z2 : n0 ≤ h2.size := Nat.le_trans Z0 (Keep.of_wr W2).1
  have N2 := Fr.snoc X2 N0 g_va
  have K2 : Keep h0 h2 [va] := (Keep.refl h0 [va]).wr W2 (Or.inl (List.mem_of_getElem? (i := 0) rfl))
  obtain ⟨fs, hr, hrun, hended, hW, hsame⟩ := X2.leave (v := none) (fun _ => rfl)
  refine ⟨_, _, pre0 _ ?_, hrun, hended, _, _, rfl, ?_, ⟨_, rfl⟩, hW, hsame.mono (by decide) (by decide)⟩
  ·
    show Steps p.tables e below (s₁.setTop (mkF m 0 #[.val (.ref va), .val (.long vn), .second] [])) _
    refine XS.aloadN X0.here hx rfl (hb hby d7_0) rfl rfl ?_
    show Steps p.tables e below (s₁.setTop (mkF m 1 #[.val (.ref va), .val (.long vn), .second] [(.ref va)])) _
    refine XS.dup X0.here hx rfl (hb hby d7_1) rfl rfl ?_
    show Steps p.tables e below (s₁.setTop (mkF m 2 #[.val (.ref va), .val (.long vn), .second] [(.ref va), (.ref va)])) _
    refine st1 _ ?_
    show Steps p.tables e below (T1.setTop (mkF m 5 #[.val (.ref va), .val (.long vn), .second] [(.long (Int64.ofNat at_)), (.ref va)])) _
    refine XS.lloadN X1.here hx rfl (hb hby d7_5) rfl ?_
    show Steps p.tables e below (T1.setTop (mkF m 6 #[.val (.ref va), .val (.long vn), .second] [(.long vn), (.long (Int64.ofNat at_)), (.ref va)])) _
    refine XS.ladd X1.here hx rfl (hb hby d7_6) rfl ?_
    show Steps p.tables e below (T1.setTop (mkF m 7 #[.val (.ref va), .val (.long vn), .second] [(.long ((Int64.ofNat at_) + vn)), (.ref va)])) _
    refine st2 _ ?_
    show Steps p.tables e below (T2.setTop (mkF m 10 #[.val (.ref va), .val (.long vn), .second] [])) _
    exact X2.returnOut hx Bd.returns (hb hby d7_10) hr
  ·
    show Q7 Z va vn vb at_ gn h0 n0 _ T2.heap _
    rw [e2]
    exact ⟨rfl, N2, K2, c3, c4, (by have q := Fw2; rw [hvn, ← Int64.ofNat_add] at q; exact q)⟩
theorem d10_0 : decode jdk_29_method_43_code 0 = .ok (.lload_n 0, 1) := by decide +kernel
theorem d10_1 : decode jdk_29_method_43_code 1 = .ok (.l2i, 1) := by decide +kernel
theorem d10_2 : decode jdk_29_method_43_code 2 = .ok (.i2l, 1) := by decide +kernel
theorem d10_3 : decode jdk_29_method_43_code 3 = .ok (.lload_n 0, 1) := by decide +kernel
theorem d10_4 : decode jdk_29_method_43_code 4 = .ok (.lcmp, 1) := by decide +kernel
theorem d10_5 : decode jdk_29_method_43_code 5 = .ok (.ifCond .eq 13, 3) := by decide +kernel
theorem d10_18 : decode jdk_29_method_43_code 18 = .ok (.lload_n 0, 1) := by decide +kernel
theorem d10_19 : decode jdk_29_method_43_code 19 = .ok (.l2i, 1) := by decide +kernel
theorem d10_20 : decode jdk_29_method_43_code 20 = .ok (.ireturn, 1) := by decide +kernel
theorem ef_rm10 (m : MethodId) (x0 : Int64) : entryFrame m #[(.long x0)] 2 = mkF m 0 #[.val (.long x0), .second] [] := by first | (simp [entryFrame, mkF, argsToLocals, Value.category]; done) | rfl
def Q10 (Z : State) (vq : Int64) (h0 : Heap) (n0 : Nat) (v : Option Value) (h : Heap) (L : List Loc) : Prop := v = some (.int (vq.toInt32)) ∧ Fr n0 L ∧ h = h0
set_option maxRecDepth 65536 in
set_option maxHeartbeats 40000000 in
theorem rm10 (l : Launch) (Z : State) (a0 : Array Value) (hw : ∀ d ∈ tables_1, d.before a0 Z = true) (ws : List Jvm.Cond) (vq : Int64) (h0 : Heap) (n0 : Nat) (Z0 : n0 ≤ h0.size) (hq : vq.toInt32.toInt64 = vq) :
    MetFree l (⟨"java/lang/Math", "toIntExact", "(J)I"⟩ : MethodName) (head1 (Jvm.Cond.code (⟨"java/lang/Math", "toIntExact", "(J)I"⟩ : MethodName) jdk_29_method_43_code 2 (some .int) :: ws) ({ frames := 0, cells := 0, slots := 0, locals := 0 } : Room)) (fun a U => a = #[(.long vq)] ∧ Z.Warmed39 U.vm ∧ U.heap = h0) (fun _ _ _ _ _ => True) (fun _ U o U' => ∃ v L, o = .returned v ∧ Q10 Z vq h0 n0 v U'.heap L ∧ FrameEnd U o U' L ({ frames := 0, cells := 0, slots := 0, locals := 0 } : Room).cells ({ frames := 0, cells := 0, slots := 0, locals := 0 } : Room).slots) := by
  refine MetFree.of_bodySF (Jvm.Free.JP.mathPlain rfl (by decide +kernel)) hisR ?_
  intro p e s m args below meth c s₁ Bd hml0 hP hK
  obtain ⟨rfl, hZ, hh⟩ := hP
  have hx := Bd.exec
  have hby := Bd.bytes
  have hml : c.maxLocals = 2 := hml0
  have hown : s.vm.findClass "java/lang/Math" = some m.cls := findClass_of_methodNamed Bd.named
  have hnm := (name_of_methodNamed Bd.named Bd.method).1
  have X0 : Stand p l e ({ frames := 0, cells := 0, slots := 0, locals := 0 } : Room) s m #[(.long vq)] below meth c s₁ [] 0 0 := Stand.of_body Bd
  have e0 : s₁.heap = h0 := by rw [← hh, Bd.state]; rfl
  have N0 := Fr.nil n0
  have pre0 : ∀ t, Steps p.tables e below (s₁.setTop (mkF m 0 #[.val (.long vq), .second] [])) t → Steps p.tables e below (s₁.setTop (entryFrame m #[(.long vq)] 2)) t := fun t k => castTop (ef_rm10 m vq) k
  obtain ⟨fs, hr, hrun, hended, hW, hsame⟩ := X0.leave (v := some (.int (vq.toInt32))) (fun h => by rw [Bd.returns] at h; cases h)
  refine ⟨_, _, pre0 _ ?_, hrun, hended, _, _, rfl, ?_, ⟨_, rfl⟩, hW, hsame.mono (by decide) (by decide)⟩
  ·
    show Steps p.tables e below (s₁.setTop (mkF m 0 #[.val (.long vq), .second] [])) _
    refine XS.lloadN X0.here hx rfl (hb hby d10_0) rfl ?_
    show Steps p.tables e below (s₁.setTop (mkF m 1 #[.val (.long vq), .second] [(.long vq)])) _
    refine XS.l2i X0.here hx rfl (hb hby d10_1) rfl ?_
    show Steps p.tables e below (s₁.setTop (mkF m 2 #[.val (.long vq), .second] [(.int (vq.toInt32))])) _
    refine XS.i2l X0.here hx rfl (hb hby d10_2) rfl ?_
    show Steps p.tables e below (s₁.setTop (mkF m 3 #[.val (.long vq), .second] [(.long ((vq.toInt32).toInt64))])) _
    refine XS.lloadN X0.here hx rfl (hb hby d10_3) rfl ?_
    show Steps p.tables e below (s₁.setTop (mkF m 4 #[.val (.long vq), .second] [(.long vq), (.long ((vq.toInt32).toInt64))])) _
    refine XS.lcmp X0.here hx rfl (hb hby d10_4) rfl ?_
    show Steps p.tables e below (s₁.setTop (mkF m 5 #[.val (.long vq), .second] [(.int (lcmpW ((vq.toInt32).toInt64) vq))])) _
    refine XS.ifYes X0.here hx rfl (pc0 := 5) (pc' := 18) rfl (hb hby d10_5) rfl ((if0 _ _).trans (teq (((lw_eq _ _).mpr hq) : (lcmpW ((vq.toInt32).toInt64) vq) = (0 : Int32))).1) (by decide) (by decide) ?_
    show Steps p.tables e below (s₁.setTop (mkF m 18 #[.val (.long vq), .second] [])) _
    refine XS.lloadN X0.here hx rfl (hb hby d10_18) rfl ?_
    show Steps p.tables e below (s₁.setTop (mkF m 19 #[.val (.long vq), .second] [(.long vq)])) _
    refine XS.l2i X0.here hx rfl (hb hby d10_19) rfl ?_
    show Steps p.tables e below (s₁.setTop (mkF m 20 #[.val (.long vq), .second] [(.int (vq.toInt32))])) _
    exact retOut X0 hx (t := .int) (i := .ireturn) Bd.returns rfl (Or.inl ⟨rfl, Or.inl rfl, _, rfl⟩) (hb hby d10_20) hr
  ·
    show Q10 Z vq h0 n0 _ s₁.heap _
    rw [e0]
    exact ⟨rfl, N0, rfl⟩
theorem d9_0 : decode prog_23_method_2_code 0 = .ok (.lload_n 0, 1) := by decide +kernel
theorem d9_1 : decode prog_23_method_2_code 1 = .ok (.ldc2_w 13, 3) := by decide +kernel
theorem d9_4 : decode prog_23_method_2_code 4 = .ok (.ladd, 1) := by decide +kernel
theorem d9_5 : decode prog_23_method_2_code 5 = .ok (.ldc2_w 15, 3) := by decide +kernel
theorem d9_8 : decode prog_23_method_2_code 8 = .ok (.ldiv, 1) := by decide +kernel
theorem pd_0 : parseMethodDescriptor "(J)I" = some ⟨[.long], some .int⟩ := by decide +kernel
theorem d9_9 : decode prog_23_method_2_code 9 = .ok (.invokestatic 17, 3) := by decide +kernel
theorem d9_12 : decode prog_23_method_2_code 12 = .ok (.ireturn, 1) := by decide +kernel
theorem ef_rm9 (m : MethodId) (x0 : Int64) : entryFrame m #[(.long x0)] 2 = mkF m 0 #[.val (.long x0), .second] [] := by first | (simp [entryFrame, mkF, argsToLocals, Value.category]; done) | rfl
def Q9 (Z : State) (vq : Int64) (h0 : Heap) (n0 : Nat) (v : Option Value) (h : Heap) (L : List Loc) : Prop := v = some (.int (((vq + (7 : Int64)) / (8 : Int64)).toInt32)) ∧ Fr n0 L ∧ h = h0
set_option maxRecDepth 65536 in
set_option maxHeartbeats 40000000 in
theorem rm9 (l : Launch) (Z : State) (a0 : Array Value) (hw : ∀ d ∈ tables_1, d.before a0 Z = true) (ws : List Jvm.Cond) (vq : Int64) (h0 : Heap) (n0 : Nat) (Z0 : n0 ≤ h0.size) (hq : ((vq + (7 : Int64)) / (8 : Int64)).toInt32.toInt64 = ((vq + (7 : Int64)) / (8 : Int64))) :
    MetFree l (⟨"com/example/causeline/causeline/core/BitWriter", "byteCount", "(J)I"⟩ : MethodName) (head1 (Jvm.Cond.code (⟨"com/example/causeline/causeline/core/BitWriter", "byteCount", "(J)I"⟩ : MethodName) prog_23_method_2_code 2 (some .int) :: ws) ({ frames := 1, cells := 0, slots := 0, locals := 13 } : Room)) (fun a U => a = #[(.long vq)] ∧ Z.Warmed39 U.vm ∧ U.heap = h0) (fun _ _ _ _ _ => True) (fun _ U o U' => ∃ v L, o = .returned v ∧ Q9 Z vq h0 n0 v U'.heap L ∧ FrameEnd U o U' L ({ frames := 1, cells := 0, slots := 0, locals := 13 } : Room).cells ({ frames := 1, cells := 0, slots := 0, locals := 13 } : Room).slots) := by
  refine MetFree.of_bodySF (plainFor_of_name pn_72) hisR ?_
  intro p e s m args below meth c s₁ Bd hml0 hP hK
  obtain ⟨rfl, hZ, hh⟩ := hP
  have hx := Bd.exec
  have hby := Bd.bytes
  have hml : c.maxLocals = 2 := hml0
  have hown : s.vm.findClass "com/example/causeline/causeline/core/BitWriter" = some m.cls := findClass_of_methodNamed Bd.named
  have hnm := (name_of_methodNamed Bd.named Bd.method).1
  have X0 : Stand p l e ({ frames := 1, cells := 0, slots := 0, locals := 13 } : Room) s m #[(.long vq)] below meth c s₁ [] 0 0 := Stand.of_body Bd
  have e0 : s₁.heap = h0 := by rw [← hh, Bd.state]; rfl
  have N0 := Fr.nil n0
  have pre0 : ∀ t, Steps p.tables e below (s₁.setTop (mkF m 0 #[.val (.long vq), .second] [])) t → Steps p.tables e below (s₁.setTop (entryFrame m #[(.long vq)] 2)) t := fun t k => castTop (ef_rm9 m vq) k
  obtain ⟨_, _, ⟨T1, L1, k1, n1⟩, -, X1, ⟨Lc1, hQ1, l1, y1, z1⟩, st1⟩ := Jvm.LawKit.callS X0 hx (y := (⟨"java/lang/Math", "toIntExact", "(J)I"⟩ : MethodName)) hown (mvT hZ (hw _ (List.mem_of_getElem? (i := 45) rfl))) (mvT hZ (hw _ (List.mem_of_getElem? (i := 46) rfl))) (mvT hZ (hw _ (List.mem_of_getElem? (i := 47) rfl))) (mvT hZ (hw _ (List.mem_of_getElem? (i := 48) rfl))) (by decide) (backOf (W := 0) (rm10 l Z a0 hw [] ((vq + (7 : Int64)) / (8 : Int64))  h0 n0 Z0 hq) hZ (hw _ (List.mem_of_getElem? (i := 48) rfl)) (hw _ (List.mem_of_getElem? (i := 47) rfl)) (by decide) (by decide)) (g := (mkF m 9 #[.val (.long vq), .second] [(.long ((vq + (7 : Int64)) / (8 : Int64)))])) rfl (by rw [hml]; rfl) (argsL := [(.long ((vq + (7 : Int64)) / (8 : Int64)))]) (rest := []) (lenOf pd_0 rfl) rfl (by show 2 * 0 + _ ≤ _; exact Nat.le_of_eq rfl) (hb hby d9_9) (fun _ _ => ⟨rfl, e0, (by decide : 0 + 0 ≤ _), (by decide : 0 + 0 ≤ _)⟩)
  dsimp only [Pt.U, Pt.locs, Pt.cells, Pt.slots] at X1 l1 y1 z1 st1 hQ1
  subst l1 y1 z1
  obtain ⟨rfl, N1q, e1q⟩ := hQ1
  have N1 := Fr.app N0 N1q
  obtain ⟨fs, hr, hrun, hended, hW, hsame⟩ := X1.leave (v := some (.int (((vq + (7 : Int64)) / (8 : Int64)).toInt32))) (fun h => by rw [Bd.returns] at h; cases h)
  refine ⟨_, _, pre0 _ ?_, hrun, hended, _, _, rfl, ?_, ⟨_, rfl⟩, hW, hsame.mono (by decide) (by decide)⟩
  ·
    show Steps p.tables e below (s₁.setTop (mkF m 0 #[.val (.long vq), .second] [])) _
    refine XS.lloadN X0.here hx rfl (hb hby d9_0) rfl ?_
    show Steps p.tables e below (s₁.setTop (mkF m 1 #[.val (.long vq), .second] [(.long vq)])) _
    refine X0.ldc2J hx hown (mvT hZ (hw _ (List.mem_of_getElem? (i := 44) rfl))) (g := (mkF m 1 #[.val (.long vq), .second] [(.long vq)])) rfl (hb hby d9_1) ?_
    show Steps p.tables e below (s₁.setTop (mkF m 4 #[.val (.long vq), .second] [(.long (7 : Int64)), (.long vq)])) _
    refine XS.ladd X0.here hx rfl (hb hby d9_4) rfl ?_
    show Steps p.tables e below (s₁.setTop (mkF m 5 #[.val (.long vq), .second] [(.long (vq + (7 : Int64)))])) _
    refine X0.ldc2J hx hown (mvT hZ (hw _ (List.mem_of_getElem? (i := 30) rfl))) (g := (mkF m 5 #[.val (.long vq), .second] [(.long (vq + (7 : Int64)))])) rfl (hb hby d9_5) ?_
    show Steps p.tables e below (s₁.setTop (mkF m 8 #[.val (.long vq), .second] [(.long (8 : Int64)), (.long (vq + (7 : Int64)))])) _
    refine XS.ldiv X0.here hx rfl (hb hby d9_8) rfl (by decide) ?_
    show Steps p.tables e below (s₁.setTop (mkF m 9 #[.val (.long vq), .second] [(.long ((vq + (7 : Int64)) / (8 : Int64)))])) _
    refine st1 _ ?_
    show Steps p.tables e below (T1.setTop (mkF m 12 #[.val (.long vq), .second] [(.int (((vq + (7 : Int64)) / (8 : Int64)).toInt32))])) _
    exact retOut X1 hx (t := .int) (i := .ireturn) Bd.returns rfl (Or.inl ⟨rfl, Or.inl rfl, _, rfl⟩) (hb hby d9_12) hr
  ·
    show Q9 Z vq h0 n0 _ T1.heap _
    rw [e1q]
    exact ⟨rfl, N1, rfl⟩
theorem d8_0 : decode prog_23_method_5_code 0 = .ok (.aload_n 0, 1) := by decide +kernel
theorem d8_1 : decode prog_23_method_5_code 1 = .ok (.getfield 23, 3) := by decide +kernel
theorem d8_4 : decode prog_23_method_5_code 4 = .ok (.invokestatic 27, 3) := by decide +kernel
theorem d8_7 : decode prog_23_method_5_code 7 = .ok (.aload_n 0, 1) := by decide +kernel
theorem d8_8 : decode prog_23_method_5_code 8 = .ok (.getfield 7, 3) := by decide +kernel
theorem d8_11 : decode prog_23_method_5_code 11 = .ok (.arraylength, 1) := by decide +kernel
theorem d8_12 : decode prog_23_method_5_code 12 = .ok (.if_icmp .eq 25, 3) := by decide +kernel
theorem d8_37 : decode prog_23_method_5_code 37 = .ok (.aload_n 0, 1) := by decide +kernel
theorem d8_38 : decode prog_23_method_5_code 38 = .ok (.getfield 7, 3) := by decide +kernel
theorem d8_41 : decode prog_23_method_5_code 41 = .ok (.areturn, 1) := by decide +kernel
theorem ef_rm8 (m : MethodId) (x0 : Addr) : entryFrame m #[(.ref x0)] 1 = mkF m 0 #[.val (.ref x0)] [] := by first | (simp [entryFrame, mkF, argsToLocals, Value.category]; done) | rfl
def Q8 (Z : State) (va : Addr) (vb : Addr) (kb : ClassId) (nn : Int32) (vq : Int64) (vs : List Value) (h0 : Heap) (n0 : Nat) (v : Option Value) (h : Heap) (L : List Loc) : Prop := v = some (.ref vb) ∧ Fr n0 L ∧ h = h0
set_option maxRecDepth 65536 in
set_option maxHeartbeats 40000000 in
theorem rm8 (l : Launch) (Z : State) (a0 : Array Value) (hw : ∀ d ∈ tables_1, d.before a0 Z = true) (ws : List Jvm.Cond) (va : Addr) (vb : Addr) (kb : ClassId) (nn : Int32) (vq : Int64) (vs : List Value) (h0 : Heap) (n0 : Nat) (Z0 : n0 ≤ h0.size) (Fb : Fld Z h0 va "com/example/causeline/causeline/core/BitWriter" "bytes" "[B" (.ref vb)) (Fat : Fld Z h0 va "com/example/causeline/causeline/core/BitWriter" "at" "J" (.long vq)) (Va : Arv Z h0 vb kb .byte nn vs (.int (0 : Int32))) (hq : ((vq + (7 : Int64)) / (8 : Int64)).toInt32.toInt64 = ((vq + (7 : Int64)) / (8 : Int64))) (he : ((vq + (7 : Int64)) / (8 : Int64)).toInt32 = nn) :
    MetFree l (⟨"com/example/causeline/causeline/core/BitWriter", "bytes", "()[B"⟩ : MethodName) (head1 (Jvm.Cond.code (⟨"com/example/causeline/causeline/core/BitWriter", "bytes", "()[B"⟩ : MethodName) prog_23_method_5_code 1 (some (.array .byte)) :: ws) ({ frames := 2, cells := 0, slots := 0, locals := 26 } : Room)) (fun a U => a = #[(.ref va)] ∧ Z.Warmed39 U.vm ∧ U.heap = h0) (fun _ _ _ _ _ => True) (fun _ U o U' => ∃ v L, o = .returned v ∧ Q8 Z va vb kb nn vq vs h0 n0 v U'.heap L ∧ FrameEnd U o U' L ({ frames := 2, cells := 0, slots := 0, locals := 26 } : Room).cells ({ frames := 2, cells := 0, slots := 0, locals := 26 } : Room).slots) := by
  refine MetFree.of_bodySF (plainFor_of_name pn_72) hisR ?_
  intro p e s m args below meth c s₁ Bd hml0 hP hK
  obtain ⟨rfl, hZ, hh⟩ := hP
  have hx := Bd.exec
  have hby := Bd.bytes
  have hml : c.maxLocals = 1 := hml0
  have hown : s.vm.findClass "com/example/causeline/causeline/core/BitWriter" = some m.cls := findClass_of_methodNamed Bd.named
  have hnm := (name_of_methodNamed Bd.named Bd.method).1
  have X0 : Stand p l e ({ frames := 2, cells := 0, slots := 0, locals := 26 } : Room) s m #[(.ref va)] below meth c s₁ [] 0 0 := Stand.of_body Bd
  have e0 : s₁.heap = h0 := by rw [← hh, Bd.state]; rfl
  have N0 := Fr.nil n0
  have pre0 : ∀ t, Steps p.tables e below (s₁.setTop (mkF m 0 #[.val (.ref va)] [])) t → Steps p.tables e below (s₁.setTop (entryFrame m #[(.ref va)] 1)) t := fun t k => castTop (ef_rm8 m va) k
  obtain ⟨T1, X1, e1, st1⟩ := getF X0 hx hZ hown (host := "") (Or.inl (hw _ (List.mem_of_getElem? (i := 28) rfl))) Via.refl e0 Fat (g := (mkF m 1 #[.val (.ref va)] [(.ref va)])) rfl rfl (hb hby d8_1)
  obtain ⟨_, _, ⟨T2, L2, k2, n2⟩, -, X2, ⟨Lc2, hQ2, l2, y2, z2⟩, st2⟩ := Jvm.LawKit.callS X1 hx (y := (⟨"com/example/causeline/causeline/core/BitWriter", "byteCount", "(J)I"⟩ : MethodName)) hown (mvT hZ (hw _ (List.mem_of_getElem? (i := 41) rfl))) (mvT hZ (hw _ (List.mem_of_getElem? (i := 42) rfl))) (mvT hZ (hw _ (List.mem_of_getElem? (i := 13) rfl))) (mvT hZ (hw _ (List.mem_of_getElem? (i := 43) rfl))) (by decide) (backOf (W := 0) (rm9 l Z a0 hw [] vq  h0 n0 Z0 hq) hZ (hw _ (List.mem_of_getElem? (i := 43) rfl)) (hw _ (List.mem_of_getElem? (i := 13) rfl)) (by decide) (by decide)) (g := (mkF m 4 #[.val (.ref va)] [(.long vq)])) rfl (by rw [hml]; rfl) (argsL := [(.long vq)]) (rest := []) (lenOf pd_0 rfl) rfl (by show 2 * 0 + _ ≤ _; exact Nat.le_of_eq rfl) (hb hby d8_4) (fun _ _ => ⟨rfl, e1, (by decide : 0 + 0 ≤ _), (by decide : 0 + 0 ≤ _)⟩)
  dsimp only [Pt.U, Pt.locs, Pt.cells, Pt.slots] at X2 l2 y2 z2 st2 hQ2
  subst l2 y2 z2
  obtain ⟨rfl, N2q, e2q⟩ := hQ2
  have N2 := Fr.app N0 N2q
  obtain ⟨T3, X3, e3, st3⟩ := getF X2 hx hZ hown (host := "") (Or.inl (hw _ (List.mem_of_getElem? (i := 21) rfl))) Via.refl e2q Fb (g := (mkF m 8 #[.val (.ref va)] [(.ref va), (.int (((vq + (7 : Int64)) / (8 : Int64)).toInt32))])) rfl rfl (hb hby d8_8)
  obtain ⟨cl4, Ar4, q4, S4, NN4, HH4, GG4⟩ := id Va
  obtain ⟨T5, X5, e5, st5⟩ := getF X3 hx hZ hown (host := "") (Or.inl (hw _ (List.mem_of_getElem? (i := 21) rfl))) Via.refl e3 Fb (g := (mkF m 38 #[.val (.ref va)] [(.ref va)])) rfl rfl (hb hby d8_38)
  obtain ⟨fs, hr, hrun, hended, hW, hsame⟩ := X5.leave (v := some (.ref vb)) (fun h => by rw [Bd.returns] at h; cases h)
  refine ⟨_, _, pre0 _ ?_, hrun, hended, _, _, rfl, ?_, ⟨_, rfl⟩, hW, hsame.mono (by decide) (by decide)⟩
  ·
    show Steps p.tables e below (s₁.setTop (mkF m 0 #[.val (.ref va)] [])) _
    refine XS.aloadN X0.here hx rfl (hb hby d8_0) rfl rfl ?_
    show Steps p.tables e below (s₁.setTop (mkF m 1 #[.val (.ref va)] [(.ref va)])) _
    refine st1 _ ?_
    show Steps p.tables e below (T1.setTop (mkF m 4 #[.val (.ref va)] [(.long vq)])) _
    refine st2 _ ?_
    show Steps p.tables e below (T2.setTop (mkF m 7 #[.val (.ref va)] [(.int (((vq + (7 : Int64)) / (8 : Int64)).toInt32))])) _
    refine XS.aloadN X2.here hx rfl (hb hby d8_7) rfl rfl ?_
    show Steps p.tables e below (T2.setTop (mkF m 8 #[.val (.ref va)] [(.ref va), (.int (((vq + (7 : Int64)) / (8 : Int64)).toInt32))])) _
    refine st3 _ ?_
    show Steps p.tables e below (T3.setTop (mkF m 11 #[.val (.ref va)] [(.ref vb), (.int (((vq + (7 : Int64)) / (8 : Int64)).toInt32))])) _
    refine X3.arraylength hx (by rw [e3]; exact Ar4.1) (State.isArrayOf_alike hZ.alike Ar4.2.1) (g := (mkF m 11 #[.val (.ref va)] [(.ref vb), (.int (((vq + (7 : Int64)) / (8 : Int64)).toInt32))])) rfl rfl (hb hby d8_11) _ ?_
    rw [len_of S4 NN4]
    show Steps p.tables e below (T3.setTop (mkF m 12 #[.val (.ref va)] [(.int nn), (.int (((vq + (7 : Int64)) / (8 : Int64)).toInt32))])) _
    refine XS.icmpYes X3.here hx rfl (pc0 := 12) (pc' := 37) rfl (hb hby d8_12) rfl (teq (he : (((vq + (7 : Int64)) / (8 : Int64)).toInt32) = nn)).1 (by decide) (by decide) ?_
    show Steps p.tables e below (T3.setTop (mkF m 37 #[.val (.ref va)] [])) _
    refine XS.aloadN X3.here hx rfl (hb hby d8_37) rfl rfl ?_
    show Steps p.tables e below (T3.setTop (mkF m 38 #[.val (.ref va)] [(.ref va)])) _
    refine st5 _ ?_
    show Steps p.tables e below (T5.setTop (mkF m 41 #[.val (.ref va)] [(.ref vb)])) _
    exact retOut X5 hx (t := (.array .byte)) (i := .areturn) Bd.returns rfl (Or.inr (Or.inr (Or.inr (Or.inr ⟨rfl, rfl, rfl⟩)))) (hb hby d8_41) hr
  ·
    show Q8 Z va vb kb nn vq vs h0 n0 _ T5.heap _
    rw [e5]
    exact ⟨rfl, N2, rfl⟩
theorem d11_0 : decode method_6_code 0 = .ok (.iload 6, 2) := by decide +kernel
theorem d11_2 : decode method_6_code 2 = .ok (.iload_n 1, 1) := by decide +kernel
theorem d11_3 : decode method_6_code 3 = .ok (.if_icmp .lt 5, 3) := by decide +kernel
theorem d11_8 : decode method_6_code 8 = .ok (.aload_n 0, 1) := by decide +kernel
theorem d11_9 : decode method_6_code 9 = .ok (.iload 6, 2) := by decide +kernel
theorem d11_11 : decode method_6_code 11 = .ok (.baload, 1) := by decide +kernel
theorem d11_12 : decode method_6_code 12 = .ok (.lload_n 2, 1) := by decide +kernel
theorem d11_13 : decode method_6_code 13 = .ok (.lload 4, 2) := by decide +kernel
theorem d11_15 : decode method_6_code 15 = .ok (.iload 6, 2) := by decide +kernel
theorem pd_1 : parseMethodDescriptor "(JJI)B" = some ⟨[.long, .long, .int], some .byte⟩ := by decide +kernel
theorem d11_17 : decode method_6_code 17 = .ok (.invokestatic 7, 3) := by decide +kernel
theorem d11_20 : decode method_6_code 20 = .ok (.if_icmp .ne 7, 3) := by decide +kernel
theorem d11_23 : decode method_6_code 23 = .ok (.iconst 1, 1) := by decide +kernel
theorem d11_24 : decode method_6_code 24 = .ok (.goto 4, 3) := by decide +kernel
theorem d11_28 : decode method_6_code 28 = .ok (.ireturn, 1) := by decide +kernel
theorem d11_27 : decode method_6_code 27 = .ok (.iconst 0, 1) := by decide +kernel
theorem d11_6 : decode method_6_code 6 = .ok (.iconst 1, 1) := by decide +kernel
theorem d11_7 : decode method_6_code 7 = .ok (.ireturn, 1) := by decide +kernel
theorem ef_rm11 (m : MethodId) (x0 : Addr) (x1 : Int32) (x2 : Int64) (x3 : Int64) (x4 : Int32) : entryFrame m #[(.ref x0), (.int x1), (.long x2), (.long x3), (.int x4)] 7 = mkF m 0 #[.val (.ref x0), .val (.int x1), .val (.long x2), .second, .val (.long x3), .second, .val (.int x4)] [] := by first | (simp [entryFrame, mkF, argsToLocals, Value.category]; done) | rfl
def own_at (va : Addr) (vlen : Int32) (vh : Int64) (vl : Int64) (vi : Int32) (bs : List Int32) : Int32 := (if vi < vlen then (if (bs.getD vi.toNatClampNeg 0) = (own_exp vh vl vi) then (1 : Int32) else (0 : Int32)) else (1 : Int32))
def Q11 (Z : State) (va : Addr) (vlen : Int32) (vh : Int64) (vl : Int64) (vi : Int32) (bs : List Int32) (kb : ClassId) (nn : Int32) (h0 : Heap) (n0 : Nat) (v : Option Value) (h : Heap) (L : List Loc) : Prop := v = some (.int (own_at va vlen vh vl vi bs)) ∧ Fr n0 L ∧ h = h0
set_option maxRecDepth 65536 in
set_option maxHeartbeats 40000000 in
theorem rm11 (l : Launch) (Z : State) (a0 : Array Value) (hw : ∀ d ∈ tables_1, d.before a0 Z = true) (ws : List Jvm.Cond) (va : Addr) (vlen : Int32) (vh : Int64) (vl : Int64) (vi : Int32) (bs : List Int32) (kb : ClassId) (nn : Int32) (h0 : Heap) (n0 : Nat) (Z0 : n0 ≤ h0.size) (Va : Arv Z h0 va kb .byte nn (bs.map Value.int) (.int (0 : Int32))) (hi0 : ¬ vi < 0) (hle : vlen = nn) :
    MetFree l (⟨"com/example/causeline/causeline/core/BitWriterDigitsPinLaw", "at", "([BIJJI)Z"⟩ : MethodName) (head1 (Jvm.Cond.code (⟨"com/example/causeline/causeline/core/BitWriterDigitsPinLaw", "at", "([BIJJI)Z"⟩ : MethodName) method_6_code 7 (some .boolean) :: ws) ({ frames := 1, cells := 0, slots := 0, locals := 17 } : Room)) (fun a U => a = #[(.ref va), (.int vlen), (.long vh), (.long vl), (.int vi)] ∧ Z.Warmed39 U.vm ∧ U.heap = h0) (fun _ _ _ _ _ => True) (fun _ U o U' => ∃ v L, o = .returned v ∧ Q11 Z va vlen vh vl vi bs kb nn h0 n0 v U'.heap L ∧ FrameEnd U o U' L ({ frames := 1, cells := 0, slots := 0, locals := 17 } : Room).cells ({ frames := 1, cells := 0, slots := 0, locals := 17 } : Room).slots) := by
  refine MetFree.of_bodySF (plainFor_of_name pn_6) hisR ?_
  intro p e s m args below meth c s₁ Bd hml0 hP hK
  obtain ⟨rfl, hZ, hh⟩ := hP
  have hx := Bd.exec
  have hby := Bd.bytes
  have hml : c.maxLocals = 7 := hml0
  have hown : s.vm.findClass "com/example/causeline/causeline/core/BitWriterDigitsPinLaw" = some m.cls := findClass_of_methodNamed Bd.named
  have hnm := (name_of_methodNamed Bd.named Bd.method).1
  have X0 : Stand p l e ({ frames := 1, cells := 0, slots := 0, locals := 17 } : Room) s m #[(.ref va), (.int vlen), (.long vh), (.long vl), (.int vi)] below meth c s₁ [] 0 0 := Stand.of_body Bd
  have e0 : s₁.heap = h0 := by rw [← hh, Bd.state]; rfl
  have N0 := Fr.nil n0
  have pre0 : ∀ t, Steps p.tables e below (s₁.setTop (mkF m 0 #[.val (.ref va), .val (.int vlen), .val (.long vh), .second, .val (.long vl), .second, .val (.int vi)] [])) t → Steps p.tables e below (s₁.setTop (entryFrame m #[(.ref va), (.int vlen), (.long vh), (.long vl), (.int vi)] 7)) t := fun t k => castTop (ef_rm11 m va vlen vh vl vi) k
  have pre1 : ∀ t, Steps p.tables e below (s₁.setTop (mkF m 3 #[.val (.ref va), .val (.int vlen), .val (.long vh), .second, .val (.long vl), .second, .val (.int vi)] [(.int vlen), (.int vi)])) t → Steps p.tables e below (s₁.setTop (entryFrame m #[(.ref va), (.int vlen), (.long vh), (.long vl), (.int vi)] 7)) t := by
    intro t kt
    refine pre0 t ?_
    show Steps p.tables e below (s₁.setTop (mkF m 0 #[.val (.ref va), .val (.int vlen), .val (.long vh), .second, .val (.long vl), .second, .val (.int vi)] [])) _
    refine XS.iload X0.here hx rfl (hb hby d11_0) rfl ?_
    show Steps p.tables e below (s₁.setTop (mkF m 2 #[.val (.ref va), .val (.int vlen), .val (.long vh), .second, .val (.long vl), .second, .val (.int vi)] [(.int vi)])) _
    refine XS.iloadN X0.here hx rfl (hb hby d11_2) rfl ?_
    exact kt
  by_cases hc2 : vi < vlen
  ·
    obtain ⟨cl3, Ar3, q3, S3, NN3, HH3, GG3⟩ := id Va
    have hin3 : ¬ (vi < 0 ∨ cl3.slots.size ≤ (vi).toNatClampNeg) := inb_of S3 ⟨hi0, hle ▸ hc2⟩
    have hat3 : cl3.slots[(vi).toNatClampNeg]? = some (.int (bs.getD vi.toNatClampNeg 0)) := HH3.at hin3 (own_getD _ _)
    obtain ⟨_, _, ⟨T4, L4, k4, n4⟩, -, X4, ⟨Lc4, hQ4, l4, y4, z4⟩, st4⟩ := Jvm.LawKit.callS X0 hx (y := (⟨"com/example/causeline/causeline/core/BitWriterDigitsPinLaw", "expByte", "(JJI)B"⟩ : MethodName)) hown (mvT hZ (hw _ (List.mem_of_getElem? (i := 52) rfl))) (mvT hZ (hw _ (List.mem_of_getElem? (i := 53) rfl))) (mvT hZ (hw _ (List.mem_of_getElem? (i := 3) rfl))) (mvT hZ (hw _ (List.mem_of_getElem? (i := 54) rfl))) (by decide) (backOf (W := 1) (rm12 l Z a0 hw [] vh vl vi  h0 n0 Z0 ) hZ (hw _ (List.mem_of_getElem? (i := 54) rfl)) (hw _ (List.mem_of_getElem? (i := 3) rfl)) (by decide) (by decide)) (g := (mkF m 17 #[.val (.ref va), .val (.int vlen), .val (.long vh), .second, .val (.long vl), .second, .val (.int vi)] [(.int vi), (.long vl), (.long vh), (.int (bs.getD vi.toNatClampNeg 0))])) rfl (by rw [hml]; rfl) (argsL := [(.long vh), (.long vl), (.int vi)]) (rest := [(.int (bs.getD vi.toNatClampNeg 0))]) (lenOf pd_1 rfl) rfl (by show 2 * 0 + _ ≤ _; exact Nat.le_of_eq rfl) (hb hby d11_17) (fun _ _ => ⟨rfl, e0, (by decide : 0 + 0 ≤ _), (by decide : 0 + 0 ≤ _)⟩)
    dsimp only [Pt.U, Pt.locs, Pt.cells, Pt.slots] at X4 l4 y4 z4 st4 hQ4
    subst l4 y4 z4
    obtain ⟨rfl, N4q, e4q⟩ := hQ4
    have N4 := Fr.app N0 N4q
    have pre5 : ∀ t, Steps p.tables e below (T4.setTop (mkF m 20 #[.val (.ref va), .val (.int vlen), .val (.long vh), .second, .val (.long vl), .second, .val (.int vi)] [(.int (own_exp vh vl vi)), (.int (bs.getD vi.toNatClampNeg 0))])) t → Steps p.tables e below (s₁.setTop (entryFrame m #[(.ref va), (.int vlen), (.long vh), (.long vl), (.int vi)] 7)) t := by
      intro t kt
      refine pre1 t ?_
      show Steps p.tables e below (s₁.setTop (mkF m 3 #[.val (.ref va), .val (.int vlen), .val (.long vh), .second, .val (.long vl), .second, .val (.int vi)] [(.int vlen), (.int vi)])) _
      refine XS.icmpYes X0.here hx rfl (pc0 := 3) (pc' := 8) rfl (hb hby d11_3) rfl (tlt (hc2 : vi < vlen)).1 (by decide) (by decide) ?_
      show Steps p.tables e below (s₁.setTop (mkF m 8 #[.val (.ref va), .val (.int vlen), .val (.long vh), .second, .val (.long vl), .second, .val (.int vi)] [])) _
      refine XS.aloadN X0.here hx rfl (hb hby d11_8) rfl rfl ?_
      show Steps p.tables e below (s₁.setTop (mkF m 9 #[.val (.ref va), .val (.int vlen), .val (.long vh), .second, .val (.long vl), .second, .val (.int vi)] [(.ref va)])) _
      refine XS.iload X0.here hx rfl (hb hby d11_9) rfl ?_
      show Steps p.tables e below (s₁.setTop (mkF m 11 #[.val (.ref va), .val (.int vlen), .val (.long vh), .second, .val (.long vl), .second, .val (.int vi)] [(.int vi), (.ref va)])) _
      refine X0.baloadBytes hx (j := vi) (v := (.int (bs.getD vi.toNatClampNeg 0))) (by rw [e0]; exact Ar3.1) (State.isArrayOf_alike hZ.alike Ar3.2.1) Ar3.2.2 hin3 hat3 (g := (mkF m 11 #[.val (.ref va), .val (.int vlen), .val (.long vh), .second, .val (.long vl), .second, .val (.int vi)] [(.int vi), (.ref va)])) rfl rfl (hb hby d11_11) _ ?_
      show Steps p.tables e below (s₁.setTop (mkF m 12 #[.val (.ref va), .val (.int vlen), .val (.long vh), .second, .val (.long vl), .second, .val (.int vi)] [(.int (bs.getD vi.toNatClampNeg 0))])) _
      refine XS.lloadN X0.here hx rfl (hb hby d11_12) rfl ?_
      show Steps p.tables e below (s₁.setTop (mkF m 13 #[.val (.ref va), .val (.int vlen), .val (.long vh), .second, .val (.long vl), .second, .val (.int vi)] [(.long vh), (.int (bs.getD vi.toNatClampNeg 0))])) _
      refine XS.lload X0.here hx rfl (hb hby d11_13) rfl ?_
      show Steps p.tables e below (s₁.setTop (mkF m 15 #[.val (.ref va), .val (.int vlen), .val (.long vh), .second, .val (.long vl), .second, .val (.int vi)] [(.long vl), (.long vh), (.int (bs.getD vi.toNatClampNeg 0))])) _
      refine XS.iload X0.here hx rfl (hb hby d11_15) rfl ?_
      show Steps p.tables e below (s₁.setTop (mkF m 17 #[.val (.ref va), .val (.int vlen), .val (.long vh), .second, .val (.long vl), .second, .val (.int vi)] [(.int vi), (.long vl), (.long vh), (.int (bs.getD vi.toNatClampNeg 0))])) _
      refine st4 _ ?_
      exact kt
    by_cases hc6 : (bs.getD vi.toNatClampNeg 0) = (own_exp vh vl vi)
    ·
      obtain ⟨fs, hr, hrun, hended, hW, hsame⟩ := X4.leave (v := some (.int (1 : Int32))) (fun h => by rw [Bd.returns] at h; cases h)
      refine ⟨_, _, pre5 _ ?_, hrun, hended, _, _, rfl, ?_, ⟨_, rfl⟩, hW, hsame.mono (by decide) (by decide)⟩
      ·
        show Steps p.tables e below (T4.setTop (mkF m 20 #[.val (.ref va), .val (.int vlen), .val (.long vh), .second, .val (.long vl), .second, .val (.int vi)] [(.int (own_exp vh vl vi)), (.int (bs.getD vi.toNatClampNeg 0))])) _
        refine XS.icmpNo X4.here hx rfl (hb hby d11_20) rfl (teq (hc6 : (bs.getD vi.toNatClampNeg 0) = (own_exp vh vl vi))).2 ?_
        show Steps p.tables e below (T4.setTop (mkF m 23 #[.val (.ref va), .val (.int vlen), .val (.long vh), .second, .val (.long vl), .second, .val (.int vi)] [])) _
        refine XS.iconst X4.here hx rfl (hb hby d11_23) ?_
        show Steps p.tables e below (T4.setTop (mkF m 24 #[.val (.ref va), .val (.int vlen), .val (.long vh), .second, .val (.long vl), .second, .val (.int vi)] [(.int (1 : Int32))])) _
        refine XS.goto X4.here hx rfl (pc0 := 24) (pc' := 28) rfl (hb hby d11_24) (by decide) (by decide) ?_
        show Steps p.tables e below (T4.setTop (mkF m 28 #[.val (.ref va), .val (.int vlen), .val (.long vh), .second, .val (.long vl), .second, .val (.int vi)] [(.int (1 : Int32))])) _
        exact retN X4 hx (t := .boolean) Bd.returns (by simp) (hb hby d11_28) hr
      ·
        show Q11 Z va vlen vh vl vi bs kb nn h0 n0 _ T4.heap _
        rw [e4q]
        have hv : (1 : Int32) = (own_at va vlen vh vl vi bs) := by rw [own_at, if_pos hc2, if_pos hc6]
        exact ⟨(congrArg (fun z => some (Value.int z)) hv), N4, rfl⟩
    ·
      obtain ⟨fs, hr, hrun, hended, hW, hsame⟩ := X4.leave (v := some (.int (0 : Int32))) (fun h => by rw [Bd.returns] at h; cases h)
      refine ⟨_, _, pre5 _ ?_, hrun, hended, _, _, rfl, ?_, ⟨_, rfl⟩, hW, hsame.mono (by decide) (by decide)⟩
      ·
        show Steps p.tables e below (T4.setTop (mkF m 20 #[.val (.ref va), .val (.int vlen), .val (.long vh), .second, .val (.long vl), .second, .val (.int vi)] [(.int (own_exp vh vl vi)), (.int (bs.getD vi.toNatClampNeg 0))])) _
        refine XS.icmpYes X4.here hx rfl (pc0 := 20) (pc' := 27) rfl (hb hby d11_20) rfl (feq (hc6 : ¬ ((bs.getD vi.toNatClampNeg 0) = (own_exp vh vl vi)))).2 (by decide) (by decide) ?_
        show Steps p.tables e below (T4.setTop (mkF m 27 #[.val (.ref va), .val (.int vlen), .val (.long vh), .second, .val (.long vl), .second, .val (.int vi)] [])) _
        refine XS.iconst X4.here hx rfl (hb hby d11_27) ?_
        show Steps p.tables e below (T4.setTop (mkF m 28 #[.val (.ref va), .val (.int vlen), .val (.long vh), .second, .val (.long vl), .second, .val (.int vi)] [(.int (0 : Int32))])) _
        exact retN X4 hx (t := .boolean) Bd.returns (by simp) (hb hby d11_28) hr
      ·
        show Q11 Z va vlen vh vl vi bs kb nn h0 n0 _ T4.heap _
        rw [e4q]
        have hv : (0 : Int32) = (own_at va vlen vh vl vi bs) := by rw [own_at, if_pos hc2, if_neg hc6]
        exact ⟨(congrArg (fun z => some (Value.int z)) hv), N4, rfl⟩
  ·
    obtain ⟨fs, hr, hrun, hended, hW, hsame⟩ := X0.leave (v := some (.int (1 : Int32))) (fun h => by rw [Bd.returns] at h; cases h)
    refine ⟨_, _, pre1 _ ?_, hrun, hended, _, _, rfl, ?_, ⟨_, rfl⟩, hW, hsame.mono (by decide) (by decide)⟩
    ·
      show Steps p.tables e below (s₁.setTop (mkF m 3 #[.val (.ref va), .val (.int vlen), .val (.long vh), .second, .val (.long vl), .second, .val (.int vi)] [(.int vlen), (.int vi)])) _
      refine XS.icmpNo X0.here hx rfl (hb hby d11_3) rfl (flt (hc2 : ¬ (vi < vlen))).1 ?_
      show Steps p.tables e below (s₁.setTop (mkF m 6 #[.val (.ref va), .val (.int vlen), .val (.long vh), .second, .val (.long vl), .second, .val (.int vi)] [])) _
      refine XS.iconst X0.here hx rfl (hb hby d11_6) ?_
      show Steps p.tables e below (s₁.setTop (mkF m 7 #[.val (.ref va), .val (.int vlen), .val (.long vh), .second, .val (.long vl), .second, .val (.int vi)] [(.int (1 : Int32))])) _
      exact retN X0 hx (t := .boolean) Bd.returns (by simp) (hb hby d11_7) hr
    ·
      show Q11 Z va vlen vh vl vi bs kb nn h0 n0 _ s₁.heap _
      rw [e0]
      have hv : (1 : Int32) = (own_at va vlen vh vl vi bs) := by rw [own_at, if_neg hc2]
      exact ⟨(congrArg (fun z => some (Value.int z)) hv), N0, rfl⟩
def own_sx (b : BitVec 8) : Int32 := Int32.ofBitVec (b.signExtend 32)
def own_Rep (bs : List Int32) (g : Nat → Bool) : Prop := ∀ i, i < bs.length → ∃ b : BitVec 8, bs[i]? = some (own_sx b) ∧ ∀ j, j < 8 → b.getLsbD (7 - j) = g (8 * i + j)
theorem own_shk : ∀ k : Fin 64, ((Int32.ofNat k.val) &&& 0x3f).toInt64.toUInt64 = UInt64.ofNat k.val := by decide +kernel
theorem own_ushr (v : Int64) {k : Nat} (h : k < 64) : ((v.toUInt64 >>> ((Int32.ofNat k) &&& 0x3f).toInt64.toUInt64).toInt64).toBitVec = v.toBitVec >>> k := by
  rw [own_shk ⟨k, h⟩]
  show (v.toUInt64 >>> UInt64.ofNat k).toBitVec = _
  rw [UInt64.toBitVec_shiftRight]
  show v.toBitVec >>> ((UInt64.ofNat k).toBitVec % 64#64) = _
  have e : ((UInt64.ofNat k).toBitVec % 64#64).toNat = k := by
    rw [BitVec.toNat_umod]
    show (k % 2 ^ 64) % 64 = k
    omega
  rw [BitVec.ushiftRight_eq', e]
theorem own_test (vv : Int64) {k : Nat} (h : k < 64) : ((vv.toUInt64 >>> ((Int32.ofNat k) &&& 0x3f).toInt64.toUInt64).toInt64 &&& (1 : Int64)) = (0 : Int64) ↔ vv.toBitVec.getLsbD k = false := by
  rw [← Int64.toBitVec_inj, Int64.toBitVec_and, own_ushr vv h]
  show (vv.toBitVec >>> k) &&& 1#64 = 0#64 ↔ _
  rw [BitVec.and_one_eq_setWidth_ofBool_getLsbD, BitVec.getLsbD_ushiftRight, Nat.add_zero]
  cases vv.toBitVec.getLsbD k <;> decide
theorem own_mk : ∀ a : Fin 96, (((128 : Int32).toUInt32 >>> (((Int64.ofNat a.val) % (8 : Int64)).toInt32 &&& 31).toUInt32).toInt32).toInt8.toInt32 = own_sx (128#8 >>> (a.val % 8)) := by decide +kernel
theorem own_sx_or (b c : BitVec 8) : (own_sx b ||| own_sx c).toInt8.toInt32 = own_sx (b ||| c) := by
  apply Int32.toBitVec_inj.mp
  show ((b.signExtend 32 ||| c.signExtend 32).signExtend 8).signExtend 32 = (b ||| c).signExtend 32
  congr 1
  apply BitVec.eq_of_getLsbD_eq
  intro i hi
  simp only [BitVec.getLsbD_signExtend, BitVec.getLsbD_or]
  have h1 : i < 32 := by omega
  simp [hi, h1]
theorem own_byte_sx (b : BitVec 8) {a : Nat} (h : a < 96) : own_byte (own_sx b) a = own_sx (b ||| (128#8 >>> (a % 8))) := by
  unfold own_byte
  rw [own_mk ⟨a, h⟩, own_sx_or]
  show (own_sx _).toInt8.toInt32 = _
  have := own_sx_or (b ||| (128#8 >>> (a % 8))) (b ||| (128#8 >>> (a % 8)))
  simpa using this
theorem own_128 : ∀ r j : Fin 8, (128#8 >>> r.val).getLsbD (7 - j.val) = decide (j = r) := by decide +kernel
theorem own_put_rep {vv : Int64} {k : Nat} {bs : List Int32} {a : Nat} {g : Nat → Bool} (R : own_Rep bs g) (hk : k < 64) (ha : a < 96) (hl : a < 8 * bs.length) (hf : g a = false) :
    own_Rep (own_put vv k bs a) (fun p => if p = a then vv.toBitVec.getLsbD k else g p) := by
  unfold own_put
  split
  · rename_i ht
    have ht := (own_test vv hk).mp ht
    intro i hi
    obtain ⟨b, e, f⟩ := R i hi
    refine ⟨b, e, fun j hj => ?_⟩
    rw [f j hj]
    show _ = (if 8 * i + j = a then _ else _)
    by_cases q : 8 * i + j = a
    · rw [if_pos q, q, hf, ht]
    · rw [if_neg q]
  · rename_i ht
    have ht : vv.toBitVec.getLsbD k = true := by
      cases e : vv.toBitVec.getLsbD k
      · exact absurd ((own_test vv hk).mpr e) ht
      · rfl
    intro i hi
    rw [List.length_set] at hi
    by_cases q : i = a / 8
    · subst q
      obtain ⟨b, e, f⟩ := R (a / 8) hi
      refine ⟨b ||| (128#8 >>> (a % 8)), ?_, fun j hj => ?_⟩
      · rw [List.getElem?_set_self hi]
        have e' : bs.getD (a / 8) 0 = own_sx b := by rw [List.getD_eq_getElem?_getD, e]; rfl
        rw [e', own_byte_sx b ha]
      · rw [BitVec.getLsbD_or, f j hj, own_128 ⟨a % 8, by omega⟩ ⟨j, hj⟩]
        show _ = (if 8 * (a / 8) + j = a then _ else _)
        by_cases q : 8 * (a / 8) + j = a
        · have : j = a % 8 := by omega
          rw [if_pos q, ht]
          simp [this]
        · have : ¬ j = a % 8 := by omega
          rw [if_neg q]
          simp [this]
    · obtain ⟨b, e, f⟩ := R i hi
      refine ⟨b, ?_, fun j hj => ?_⟩
      · rw [List.getElem?_set_ne (Ne.symm q)]; exact e
      · rw [f j hj]
        exact (if_neg (by omega)).symm
theorem own_digs_rep {vv : Int64} : ∀ (k : Nat) {bs : List Int32} {a : Nat} {g : Nat → Bool}, own_Rep bs g → k ≤ 64 → a + k < 96 → a + k ≤ 8 * bs.length → (∀ p, a ≤ p → g p = false) →
    own_Rep (own_digs vv k bs a) (fun p => if a ≤ p ∧ p < a + k then vv.toBitVec.getLsbD (a + k - 1 - p) else g p)
  | 0, bs, a, g, R, _, _, _, _ => by
    intro i hi
    obtain ⟨b, e, f⟩ := R i hi
    exact ⟨b, e, fun j hj => by rw [f j hj]; exact (if_neg (by omega)).symm⟩
  | k + 1, bs, a, g, R, hk, ha, hl, hf => by
    have R1 := own_put_rep (vv := vv) (k := k) R (by omega) (by omega : a < 96) (by omega) (hf a (Nat.le_refl _))
    have R2 := own_digs_rep (vv := vv) k (a := a + 1) R1 (by omega) (by omega) (by rw [own_put_len]; omega) (fun p hp => by
      show (if p = a then _ else g p) = false
      rw [if_neg (by omega)]; exact hf p (by omega))
    intro i hi
    rw [own_digs] at hi ⊢
    obtain ⟨b, e, f⟩ := R2 i hi
    refine ⟨b, e, fun j hj => ?_⟩
    rw [f j hj]
    show (if a + 1 ≤ 8 * i + j ∧ 8 * i + j < a + 1 + k then vv.toBitVec.getLsbD (a + 1 + k - 1 - (8 * i + j)) else (if 8 * i + j = a then vv.toBitVec.getLsbD k else g (8 * i + j))) = (if a ≤ 8 * i + j ∧ 8 * i + j < a + (k + 1) then vv.toBitVec.getLsbD (a + (k + 1) - 1 - (8 * i + j)) else g (8 * i + j))
    by_cases q1 : 8 * i + j = a
    · rw [if_neg (by omega), if_pos q1, if_pos (by omega)]
      congr 1; omega
    · by_cases q2 : a + 1 ≤ 8 * i + j ∧ 8 * i + j < a + 1 + k
      · rw [if_pos q2, if_pos (by omega)]
        congr 1; omega
      · rw [if_neg q2, if_neg q1, if_neg (by omega)]
theorem own_zero_rep (n : Nat) : own_Rep (List.replicate n (0 : Int32)) (fun _ => false) := by
  intro i hi
  rw [List.length_replicate] at hi
  exact ⟨0#8, by rw [List.getElem?_replicate, if_pos hi]; rfl, fun j hj => by simp⟩
theorem own_nat7 {x u : Int32} (h : x = u &&& (7 : Int32)) : ∃ n : Nat, n < 8 ∧ x = Int32.ofNat n := by
  refine ⟨(u &&& (7 : Int32)).toBitVec.toNat, ?_, ?_⟩
  · simp only [Int32.toBitVec_and, BitVec.toNat_and]
    exact Nat.lt_succ_of_le Nat.and_le_right
  · rw [h]
    apply Int32.toBitVec_inj.mp
    show _ = BitVec.ofNat 32 _
    rw [BitVec.ofNat_toNat]; simp
theorem own_and_max32 (u : Int32) : 0 ≤ (u &&& (2147483647 : Int32)).toInt := by
  have : (u &&& (2147483647 : Int32)).toInt = (u.toBitVec &&& 2147483647#32).toInt := rfl
  rw [this, BitVec.toInt_eq_toNat_of_lt]
  · omega
  · rw [BitVec.toNat_and]
    have := Nat.and_le_right (n := u.toBitVec.toNat) (m := (2147483647#32).toNat)
    have e : (2147483647#32).toNat = 2147483647 := rfl
    omega
theorem own_nat64 {x u : Int32} (h : x = (u &&& (2147483647 : Int32)) % (64 : Int32)) : ∃ n : Nat, n < 64 ∧ x = Int32.ofNat n := by
  have e : x.toInt = (u &&& (2147483647 : Int32)).toInt.tmod 64 := by rw [h]; exact Int32.toInt_mod _ _
  have b1 := Int.tmod_nonneg 64 (own_and_max32 u)
  have b2 := Int.tmod_lt_of_pos (u &&& (2147483647 : Int32)).toInt (show (0 : Int) < 64 by decide)
  refine ⟨x.toInt.toNat, by omega, ?_⟩
  apply Int32.toInt_inj.mp
  rw [Int32.toInt_ofNat_small (by omega)]; omega
theorem own_add32 {a b : Nat} (h : a + b < 2 ^ 31) : Int32.ofNat a + Int32.ofNat b = Int32.ofNat (a + b) := by rw [Int32.ofNat_add]
theorem own_e2n {e2 pp gg cc : Int32} {na nb nc : Nat} (h : e2 = ((pp + gg) + cc)) (ea : pp = Int32.ofNat na) (eb : gg = Int32.ofNat nb) (ec : cc = Int32.ofNat nc) (ha : na < 8) (hb : nb < 8) (hc : nc < 64) : e2 = Int32.ofNat (na + nb + nc) := by
  rw [h, ea, eb, ec, own_add32 (by omega), own_add32 (by omega)]
theorem own_div8 : ∀ n : Fin 96, (Int32.ofNat n.val + (7 : Int32)) / (8 : Int32) = Int32.ofNat ((n.val + 7) / 8) := by decide +kernel
theorem own_lnn {ln pp gg cc : Int32} {na nb nc : Nat} (h : ln = ((((pp + gg) + cc) + (7 : Int32)) / (8 : Int32))) (ea : pp = Int32.ofNat na) (eb : gg = Int32.ofNat nb) (ec : cc = Int32.ofNat nc) (ha : na < 8) (hb : nb < 8) (hc : nc < 64) : ln = Int32.ofNat ((na + nb + nc + 7) / 8) := by
  rw [h, ea, eb, ec, own_add32 (by omega), own_add32 (by omega)]
  exact own_div8 ⟨na + nb + nc, by omega⟩
theorem own_i2l {g : Int32} {n : Nat} (h : g = Int32.ofNat n) (hn : n < 96) : g.toInt64 = Int64.ofNat n := by
  have t : ∀ k : Fin 96, (Int32.ofNat k.val).toInt64 = Int64.ofNat k.val := by decide +kernel
  rw [h]; exact t ⟨n, hn⟩
theorem own_bc1 (n : Nat) (h : n < 96) : (((Int64.ofNat n) + (7 : Int64)) / (8 : Int64)).toInt32.toInt64 = (((Int64.ofNat n) + (7 : Int64)) / (8 : Int64)) := by
  have t : ∀ k : Fin 96, (((Int64.ofNat k.val) + (7 : Int64)) / (8 : Int64)).toInt32.toInt64 = (((Int64.ofNat k.val) + (7 : Int64)) / (8 : Int64)) := by decide +kernel
  exact t ⟨n, h⟩
theorem own_bc2 (n : Nat) (h : n < 96) {ln : Int32} {m : Nat} (hl : ln = Int32.ofNat ((m + 7) / 8)) (e : n = m := by omega) : (((Int64.ofNat n) + (7 : Int64)) / (8 : Int64)).toInt32 = ln := by
  have t : ∀ k : Fin 96, (((Int64.ofNat k.val) + (7 : Int64)) / (8 : Int64)).toInt32 = Int32.ofNat ((k.val + 7) / 8) := by decide +kernel
  subst e
  rw [hl]; exact t ⟨n, h⟩
theorem own_shn : ∀ k : Fin 64, ((Int32.ofNat k.val) &&& 0x3f).toInt64 = Int64.ofNat k.val := by decide +kernel
theorem own_shl (v : Int64) {k : Nat} (h : k < 64) : (v <<< ((Int32.ofNat k) &&& 0x3f).toInt64).toBitVec = v.toBitVec <<< k := by
  rw [own_shn ⟨k, h⟩, Int64.toBitVec_shiftLeft]
  show v.toBitVec <<< ((Int64.ofNat k).toBitVec.smod 64#64) = _
  have e : ((Int64.ofNat k).toBitVec.smod 64#64).toNat = k := by
    have t : ∀ k : Fin 64, ((Int64.ofNat k.val).toBitVec.smod 64#64).toNat = k.val := by decide +kernel
    exact t ⟨k, h⟩
  rw [BitVec.shiftLeft_eq', e]
theorem own_mask_bit {c : Nat} (h : c < 64) (j : Nat) : (own_mask (Int32.ofNat c)).toBitVec.getLsbD j = decide (j < c) := by
  have e : (own_mask (Int32.ofNat c)).toBitVec = (1#64 <<< c) - 1#64 := by
    rw [own_mask, Int64.toBitVec_sub, own_shl _ h]; rfl
  rw [e]
  have e2 : ((1#64 <<< c) - 1#64).toNat = 2 ^ c - 1 := by
    have hc : 2 ^ c < 2 ^ 64 := Nat.pow_lt_pow_right (by decide) h
    have hp : 0 < 2 ^ c := Nat.two_pow_pos c
    rw [BitVec.toNat_sub, BitVec.toNat_shiftLeft, Nat.shiftLeft_eq]
    show (2 ^ 64 - 1 + (1 * 2 ^ c) % 2 ^ 64) % 2 ^ 64 = _
    rw [Nat.one_mul, Nat.mod_eq_of_lt hc]
    omega
  rw [BitVec.getLsbD, e2, Nat.testBit_two_pow_sub_one]
theorem own_64 : ∀ n : Fin 128, (64 : Int32) - Int32.ofNat n.val = Int32.ofInt (64 - n.val) := by decide +kernel
theorem own_hi_bit (v : Int64) {n p : Nat} (hn : n < 128) (hp : p < 64) : (own_hi v (Int32.ofNat n)).toBitVec.getLsbD (63 - p) = (decide (p < n) && v.toBitVec.getLsbD (n - 1 - p)) := by
  have h1 : ((64 : Int32) - Int32.ofNat n < (64 : Int32)) ↔ 0 < n := by
    have t : ∀ n : Fin 128, ((64 : Int32) - Int32.ofNat n.val < (64 : Int32)) ↔ 0 < n.val := by decide +kernel
    exact t ⟨n, hn⟩
  have h2 : ((64 : Int32) - Int32.ofNat n < (0 : Int32)) ↔ 64 < n := by
    have t : ∀ n : Fin 128, ((64 : Int32) - Int32.ofNat n.val < (0 : Int32)) ↔ 64 < n.val := by decide +kernel
    exact t ⟨n, hn⟩
  unfold own_hi
  by_cases q1 : 0 < n
  · rw [if_pos (h1.mpr q1)]
    by_cases q2 : 64 < n
    · rw [if_pos (h2.mpr q2)]
      have e : -((64 : Int32) - Int32.ofNat n) = Int32.ofNat (n - 64) := by
        have t : ∀ n : Fin 128, 64 < n.val → -((64 : Int32) - Int32.ofNat n.val) = Int32.ofNat (n.val - 64) := by decide +kernel
        exact t ⟨n, hn⟩ q2
      rw [e, own_ushr v (by omega), BitVec.getLsbD_ushiftRight]
      have e1 : n - 64 + (63 - p) = n - 1 - p := by omega
      rw [e1, decide_eq_true (by omega : p < n), Bool.true_and]
    · rw [if_neg (fun q => q2 (h2.mp q))]
      have e : (64 : Int32) - Int32.ofNat n = Int32.ofNat (64 - n) := by
        have t : ∀ n : Fin 128, ¬ 64 < n.val → (64 : Int32) - Int32.ofNat n.val = Int32.ofNat (64 - n.val) := by decide +kernel
        exact t ⟨n, hn⟩ q2
      rw [e, own_shl v (by omega), BitVec.getLsbD_shiftLeft]
      by_cases q3 : p < n
      · have e1 : 63 - p - (64 - n) = n - 1 - p := by omega
        rw [e1, decide_eq_true q3, decide_eq_true (by omega : 63 - p < 64), decide_eq_false (by omega : ¬ 63 - p < 64 - n)]; rfl
      · rw [decide_eq_false q3, decide_eq_true (by omega : 63 - p < 64 - n)]; simp
  · rw [if_neg (fun q => q1 (h1.mp q)), decide_eq_false (by omega : ¬ p < n)]
    simp
theorem own_lo_bit (v : Int64) {n p : Nat} (hn : n < 128) (hp : p < 64) : (own_lo v (Int32.ofNat n)).toBitVec.getLsbD (63 - p) = (decide (64 + p < n) && v.toBitVec.getLsbD (n - 1 - (64 + p))) := by
  have h1 : ((128 : Int32) - Int32.ofNat n < (64 : Int32)) ↔ 64 < n := by
    have t : ∀ n : Fin 128, ((128 : Int32) - Int32.ofNat n.val < (64 : Int32)) ↔ 64 < n.val := by decide +kernel
    exact t ⟨n, hn⟩
  unfold own_lo
  by_cases q2 : 64 < n
  · rw [if_pos (h1.mpr q2)]
    have e : (128 : Int32) - Int32.ofNat n = Int32.ofNat (128 - n) := by
      have t : ∀ n : Fin 128, (128 : Int32) - Int32.ofNat n.val = Int32.ofNat (128 - n.val) := by decide +kernel
      exact t ⟨n, hn⟩
    rw [e, own_shl v (by omega), BitVec.getLsbD_shiftLeft]
    by_cases q3 : 64 + p < n
    · have e1 : 63 - p - (128 - n) = n - 1 - (64 + p) := by omega
      rw [e1, decide_eq_true q3, decide_eq_true (by omega : 63 - p < 64), decide_eq_false (by omega : ¬ 63 - p < 128 - n)]; rfl
    · rw [decide_eq_false q3, decide_eq_true (by omega : 63 - p < 128 - n)]; simp
  · rw [if_neg (fun q => q2 (h1.mp q)), decide_eq_false (by omega : ¬ 64 + p < n)]
    simp
theorem own_trunc (x : Int64) : (x.toInt32).toInt8.toInt32.toInt8.toInt32 = own_sx (x.toBitVec.setWidth 8) := by
  apply Int32.toBitVec_inj.mp
  show ((((x.toBitVec.signExtend 32).signExtend 8).signExtend 32).signExtend 8).signExtend 32 = (x.toBitVec.setWidth 8).signExtend 32
  congr 1
  apply BitVec.eq_of_getLsbD_eq
  intro i hi
  have h1 : i < 32 := by omega
  have h2 : i < 64 := by omega
  simp only [BitVec.getLsbD_signExtend, BitVec.getLsbD_setWidth, hi, h1, h2, decide_true, Bool.true_and, if_true, ↓reduceIte]
theorem own_exp_hi (hi lo : Int64) {n : Nat} (h : n < 8) : own_exp hi lo (Int32.ofNat n) = own_sx ((hi.toBitVec >>> (56 - 8 * n)).setWidth 8) := by
  have c : (Int32.ofNat n < (8 : Int32)) := by
    have t : ∀ n : Fin 8, (Int32.ofNat n.val < (8 : Int32)) := by decide +kernel
    exact t ⟨n, h⟩
  have e : (56 : Int32) - (8 : Int32) * Int32.ofNat n = Int32.ofNat (56 - 8 * n) := by
    have t : ∀ n : Fin 8, (56 : Int32) - (8 : Int32) * Int32.ofNat n.val = Int32.ofNat (56 - 8 * n.val) := by decide +kernel
    exact t ⟨n, h⟩
  rw [own_exp, if_pos c, e]
  rw [← own_ushr hi (by omega : 56 - 8 * n < 64)]
  exact own_trunc _
theorem own_exp_lo (hi lo : Int64) {n : Nat} (h : 8 ≤ n) (h' : n < 16) : own_exp hi lo (Int32.ofNat n) = own_sx ((lo.toBitVec >>> (56 - 8 * (n - 8))).setWidth 8) := by
  have c : ¬ (Int32.ofNat n < (8 : Int32)) := by
    have t : ∀ n : Fin 16, 8 ≤ n.val → ¬ (Int32.ofNat n.val < (8 : Int32)) := by decide +kernel
    exact t ⟨n, h'⟩ h
  have e : (56 : Int32) - (8 : Int32) * (Int32.ofNat n - (8 : Int32)) = Int32.ofNat (56 - 8 * (n - 8)) := by
    have t : ∀ n : Fin 16, 8 ≤ n.val → (56 : Int32) - (8 : Int32) * (Int32.ofNat n.val - (8 : Int32)) = Int32.ofNat (56 - 8 * (n.val - 8)) := by decide +kernel
    exact t ⟨n, h'⟩ h
  rw [own_exp, if_neg c, e]
  rw [← own_ushr lo (by omega : 56 - 8 * (n - 8) < 64)]
  exact own_trunc _
theorem own_bits {na nb nc p : Nat} {x y : Bool} (hp : p < 128) : (if na + nb ≤ p ∧ p < na + nb + nc then y else (if p < na then x else false)) = ((decide (p < na) && (decide (na - 1 - p < na) && x)) || (decide (p < na + nb + nc) && (decide (na + nb + nc - 1 - p < nc) && y))) := by
  by_cases q1 : p < na
  · rw [if_neg (by omega), if_pos q1, decide_eq_true q1, decide_eq_true (by omega : na - 1 - p < na), decide_eq_false (by omega : ¬ na + nb + nc - 1 - p < nc)]; simp
  · by_cases q2 : na + nb ≤ p ∧ p < na + nb + nc
    · rw [if_pos q2, decide_eq_false q1, decide_eq_true q2.2, decide_eq_true (by omega : na + nb + nc - 1 - p < nc)]; simp
    · rw [if_neg q2, if_neg q1, decide_eq_false q1]
      by_cases q3 : p < na + nb + nc
      · rw [decide_eq_false (by omega : ¬ na + nb + nc - 1 - p < nc)]; simp
      · rw [decide_eq_false q3]; simp
theorem own_final {vb : Addr} {na nb nc : Nat} (hna : na < 8) (hnb : nb < 8) (hnc : nc < 64) {ln e2 pp cc : Int32} (hln : ln = Int32.ofNat ((na + nb + nc + 7) / 8)) (he2n : e2 = Int32.ofNat (na + nb + nc)) (ena : pp = Int32.ofNat na) (enc : cc = Int32.ofNat nc) {hi_ lo_ vx vy : Int64}
    (hhi_ : hi_ = ((own_hi (vx &&& (own_mask pp)) pp) ||| (own_hi (vy &&& (own_mask cc)) e2))) (hlo_ : lo_ = ((own_lo (vx &&& (own_mask pp)) pp) ||| (own_lo (vy &&& (own_mask cc)) e2))) (i : Int32) (hi : ¬ i < 0 ∧ i < (10 : Int32)) :
    own_at vb ln hi_ lo_ i (own_digs vy nc (own_digs vx na (List.replicate ((na + nb + nc + 7) / 8) (0 : Int32)) 0) ((0 + na) + nb)) = 1 := by
  obtain ⟨n, hn, rfl⟩ : ∃ n : Nat, n < 10 ∧ i = Int32.ofNat n := by
    obtain ⟨q1, q2⟩ := hi
    rw [Int32.lt_iff_toInt_lt] at q1 q2
    have z0 : (0 : Int32).toInt = 0 := rfl
    have z10 : (10 : Int32).toInt = 10 := rfl
    refine ⟨i.toInt.toNat, by omega, ?_⟩
    apply Int32.toInt_inj.mp
    rw [Int32.toInt_ofNat_small (by omega)]; omega
  subst hln he2n ena enc
  unfold own_at
  split
  · rename_i hlt
    have hlt : n < (na + nb + nc + 7) / 8 := by
      rw [Int32.lt_iff_toInt_lt, Int32.toInt_ofNat_small (by omega), Int32.toInt_ofNat_small (by omega)] at hlt
      omega
    refine if_pos ?_
    rw [own_nat32 (by omega)]
    have R0 := own_zero_rep ((na + nb + nc + 7) / 8)
    have R1 := own_digs_rep (vv := vx) na (a := 0) R0 (by omega) (by omega) (by rw [List.length_replicate]; omega) (fun _ _ => rfl)
    have R2 := own_digs_rep (vv := vy) nc (a := (0 + na) + nb) R1 (by omega) (by omega) (by rw [own_digs_len, List.length_replicate]; omega) (fun p hp => if_neg (by omega))
    obtain ⟨b, e, f⟩ := R2 n (by rw [own_digs_len, own_digs_len, List.length_replicate]; exact hlt)
    rw [List.getD_eq_getElem?_getD, e]
    show own_sx b = _
    have hbit : ∀ j, j < 8 → b.getLsbD (7 - j) = ((decide (8 * n + j < na) && (decide (na - 1 - (8 * n + j) < na) && vx.toBitVec.getLsbD (na - 1 - (8 * n + j)))) || (decide (8 * n + j < na + nb + nc) && (decide (na + nb + nc - 1 - (8 * n + j) < nc) && vy.toBitVec.getLsbD (na + nb + nc - 1 - (8 * n + j))))) := fun j hj => by
      rw [f j hj, ← own_bits (by omega)]
      simp only [Nat.zero_add]
      by_cases q : na + nb ≤ 8 * n + j ∧ 8 * n + j < na + nb + nc
      · rw [if_pos q, if_pos q]
      · rw [if_neg q, if_neg q]
        by_cases q2 : 8 * n + j < na
        · rw [if_pos ⟨Nat.zero_le _, q2⟩, if_pos q2]
        · rw [if_neg (fun h => q2 h.2), if_neg q2]
    by_cases q8 : n < 8
    · rw [own_exp_hi hi_ lo_ q8]
      congr 1
      apply BitVec.eq_of_getLsbD_eq
      intro t ht
      have e1 : t = 7 - (7 - t) := by omega
      rw [e1, hbit (7 - t) (by omega), BitVec.getLsbD_setWidth, BitVec.getLsbD_ushiftRight, decide_eq_true (by omega : 7 - (7 - t) < 8), Bool.true_and]
      have e2 : 56 - 8 * n + (7 - (7 - t)) = 63 - (8 * n + (7 - t)) := by omega
      rw [e2, hhi_, Int64.toBitVec_or, BitVec.getLsbD_or, own_hi_bit _ (by omega) (by omega), own_hi_bit _ (by omega) (by omega)]
      rw [Int64.toBitVec_and, Int64.toBitVec_and, BitVec.getLsbD_and, BitVec.getLsbD_and, own_mask_bit (by omega), own_mask_bit (by omega)]
      simp only [Bool.and_comm]
    · rw [own_exp_lo hi_ lo_ (by omega) (by omega)]
      congr 1
      apply BitVec.eq_of_getLsbD_eq
      intro t ht
      have e1 : t = 7 - (7 - t) := by omega
      rw [e1, hbit (7 - t) (by omega), BitVec.getLsbD_setWidth, BitVec.getLsbD_ushiftRight, decide_eq_true (by omega : 7 - (7 - t) < 8), Bool.true_and]
      have e2 : 56 - 8 * (n - 8) + (7 - (7 - t)) = 63 - (8 * n + (7 - t) - 64) := by omega
      rw [e2, hlo_, Int64.toBitVec_or, BitVec.getLsbD_or, own_lo_bit _ (by omega) (by omega), own_lo_bit _ (by omega) (by omega)]
      have e3 : 64 + (8 * n + (7 - t) - 64) = 8 * n + (7 - t) := by omega
      rw [e3, Int64.toBitVec_and, Int64.toBitVec_and, BitVec.getLsbD_and, BitVec.getLsbD_and, own_mask_bit (by omega), own_mask_bit (by omega)]
      simp only [Bool.and_comm]
  · rfl
theorem pd_2 : parseMethodDescriptor "(I)J" = some ⟨[.int], some .long⟩ := by decide +kernel
theorem pd_3 : parseMethodDescriptor "(JI)J" = some ⟨[.long, .int], some .long⟩ := by decide +kernel
theorem pd_4 : parseMethodDescriptor "(I)V" = some ⟨[.int], none⟩ := by decide +kernel
theorem pd_5 : parseMethodDescriptor "(JI)V" = some ⟨[.long, .int], none⟩ := by decide +kernel
theorem pd_6 : parseMethodDescriptor "(J)V" = some ⟨[.long], none⟩ := by decide +kernel
theorem pd_7 : parseMethodDescriptor "()[B" = some ⟨[], some (.array .byte)⟩ := by decide +kernel
theorem pd_8 : parseMethodDescriptor "([BIJJI)Z" = some ⟨[(.array .byte), .int, .long, .long, .int], some .boolean⟩ := by decide +kernel
theorem ef_rm0 (m : MethodId) (x0 : Int64) (x1 : Int32) (x2 : Int32) (x3 : Int64) (x4 : Int32) : entryFrame m #[(.long x0), (.int x1), (.int x2), (.long x3), (.int x4)] maxLocals = mkF m 0 #[.val (.long x0), .second, .val (.int x1), .val (.int x2), .val (.long x3), .second, .val (.int x4), .unset, .unset, .unset, .unset, .unset, .unset, .unset, .unset, .unset, .unset, .unset, .unset, .unset, .unset, .unset] [] := by first | (simp [entryFrame, mkF, argsToLocals, Value.category, maxLocals]; done) | rfl
def Q0 (Z : State) (vx : Int64) (vp : Int32) (vg : Int32) (vy : Int64) (vn : Int32) (h0 : Heap) (n0 : Nat) (v : Option Value) (h : Heap) (L : List Loc) : Prop := v = some (.int (1 : Int32)) ∧ Fr n0 L
set_option maxRecDepth 65536 in
set_option maxHeartbeats 40000000 in
theorem rm0 (l : Launch) (Z : State) (a0 : Array Value) (hw : ∀ d ∈ tables_1, d.before a0 Z = true) (ws : List Jvm.Cond) (vx : Int64) (vp : Int32) (vg : Int32) (vy : Int64) (vn : Int32) (h0 : Heap) (n0 : Nat) (Z0 : n0 ≤ h0.size) :
    MetFree l x (head1 (Jvm.Cond.code x code maxLocals ret :: ws) room_1) (fun a U => a = #[(.long vx), (.int vp), (.int vg), (.long vy), (.int vn)] ∧ Z.Warmed39 U.vm ∧ U.heap = h0) (fun _ _ _ _ _ => True) (fun _ U o U' => ∃ v L, o = .returned v ∧ Q0 Z vx vp vg vy vn h0 n0 v U'.heap L ∧ FrameEnd U o U' L room_1.cells room_1.slots) := by
  refine MetFree.of_bodySF (plainFor_of_name pn_6) hisR ?_
  intro p e s m args below meth c s₁ Bd hml0 hP hK
  obtain ⟨rfl, hZ, hh⟩ := hP
  have hx := Bd.exec
  have hby := Bd.bytes
  have hml : c.maxLocals = 22 := hml0
  have hown : s.vm.findClass "com/example/causeline/causeline/core/BitWriterDigitsPinLaw" = some m.cls := findClass_of_methodNamed Bd.named
  have hnm := (name_of_methodNamed Bd.named Bd.method).1
  have X0 : Stand p l e room_1 s m #[(.long vx), (.int vp), (.int vg), (.long vy), (.int vn)] below meth c s₁ [] 0 0 := Stand.of_body Bd
  have e0 : s₁.heap = h0 := by rw [← hh, Bd.state]; rfl
  have N0 := Fr.nil n0
  have pre0 : ∀ t, Steps p.tables e below (s₁.setTop (mkF m 0 #[.val (.long vx), .second, .val (.int vp), .val (.int vg), .val (.long vy), .second, .val (.int vn), .unset, .unset, .unset, .unset, .unset, .unset, .unset, .unset, .unset, .unset, .unset, .unset, .unset, .unset, .unset] [])) t → Steps p.tables e below (s₁.setTop (entryFrame m #[(.long vx), (.int vp), (.int vg), (.long vy), (.int vn)] maxLocals)) t := fun t k => castTop (ef_rm0 m vx vp vg vy vn) k
  have pre1 : ∀ t, Steps p.tables e below (s₁.setTop (mkF m 42 #[.val (.long vx), .second, .val (.int vp), .val (.int vg), .val (.long vy), .second, .val (.int vn), .val (.int (vp &&& (7 : Int32))), .val (.int (vg &&& (7 : Int32))), .val (.int ((vn &&& (2147483647 : Int32)) % (64 : Int32))), .val (.int (((vp &&& (7 : Int32)) + (vg &&& (7 : Int32))) + ((vn &&& (2147483647 : Int32)) % (64 : Int32)))), .val (.int (((((vp &&& (7 : Int32)) + (vg &&& (7 : Int32))) + ((vn &&& (2147483647 : Int32)) % (64 : Int32))) + (7 : Int32)) / (8 : Int32))), .unset, .unset, .unset, .unset, .unset, .unset, .unset, .unset, .unset, .unset] [])) t → Steps p.tables e below (s₁.setTop (entryFrame m #[(.long vx), (.int vp), (.int vg), (.long vy), (.int vn)] maxLocals)) t := by
    intro t kt
    refine pre0 t ?_
    show Steps p.tables e below (s₁.setTop (mkF m 0 #[.val (.long vx), .second, .val (.int vp), .val (.int vg), .val (.long vy), .second, .val (.int vn), .unset, .unset, .unset, .unset, .unset, .unset, .unset, .unset, .unset, .unset, .unset, .unset, .unset, .unset, .unset] [])) _
    refine XS.iloadN X0.here hx rfl (hb hby at_0) rfl ?_
    show Steps p.tables e below (s₁.setTop (mkF m 1 #[.val (.long vx), .second, .val (.int vp), .val (.int vg), .val (.long vy), .second, .val (.int vn), .unset, .unset, .unset, .unset, .unset, .unset, .unset, .unset, .unset, .unset, .unset, .unset, .unset, .unset, .unset] [(.int vp)])) _
    refine XS.bipush X0.here hx rfl (hb hby at_1) ?_
    show Steps p.tables e below (s₁.setTop (mkF m 3 #[.val (.long vx), .second, .val (.int vp), .val (.int vg), .val (.long vy), .second, .val (.int vn), .unset, .unset, .unset, .unset, .unset, .unset, .unset, .unset, .unset, .unset, .unset, .unset, .unset, .unset, .unset] [(.int (7 : Int32)), (.int vp)])) _
    refine XS.iand X0.here hx rfl (hb hby at_3) rfl ?_
    show Steps p.tables e below (s₁.setTop (mkF m 4 #[.val (.long vx), .second, .val (.int vp), .val (.int vg), .val (.long vy), .second, .val (.int vn), .unset, .unset, .unset, .unset, .unset, .unset, .unset, .unset, .unset, .unset, .unset, .unset, .unset, .unset, .unset] [(.int (vp &&& (7 : Int32)))])) _
    refine XS.istore X0.here hx rfl (hb hby at_4) rfl (l' := #[.val (.long vx), .second, .val (.int vp), .val (.int vg), .val (.long vy), .second, .val (.int vn), .val (.int (vp &&& (7 : Int32))), .unset, .unset, .unset, .unset, .unset, .unset, .unset, .unset, .unset, .unset, .unset, .unset, .unset, .unset]) rfl ?_
    show Steps p.tables e below (s₁.setTop (mkF m 6 #[.val (.long vx), .second, .val (.int vp), .val (.int vg), .val (.long vy), .second, .val (.int vn), .val (.int (vp &&& (7 : Int32))), .unset, .unset, .unset, .unset, .unset, .unset, .unset, .unset, .unset, .unset, .unset, .unset, .unset, .unset] [])) _
    refine XS.iloadN X0.here hx rfl (hb hby at_6) rfl ?_
    show Steps p.tables e below (s₁.setTop (mkF m 7 #[.val (.long vx), .second, .val (.int vp), .val (.int vg), .val (.long vy), .second, .val (.int vn), .val (.int (vp &&& (7 : Int32))), .unset, .unset, .unset, .unset, .unset, .unset, .unset, .unset, .unset, .unset, .unset, .unset, .unset, .unset] [(.int vg)])) _
    refine XS.bipush X0.here hx rfl (hb hby at_7) ?_
    show Steps p.tables e below (s₁.setTop (mkF m 9 #[.val (.long vx), .second, .val (.int vp), .val (.int vg), .val (.long vy), .second, .val (.int vn), .val (.int (vp &&& (7 : Int32))), .unset, .unset, .unset, .unset, .unset, .unset, .unset, .unset, .unset, .unset, .unset, .unset, .unset, .unset] [(.int (7 : Int32)), (.int vg)])) _
    refine XS.iand X0.here hx rfl (hb hby at_9) rfl ?_
    show Steps p.tables e below (s₁.setTop (mkF m 10 #[.val (.long vx), .second, .val (.int vp), .val (.int vg), .val (.long vy), .second, .val (.int vn), .val (.int (vp &&& (7 : Int32))), .unset, .unset, .unset, .unset, .unset, .unset, .unset, .unset, .unset, .unset, .unset, .unset, .unset, .unset] [(.int (vg &&& (7 : Int32)))])) _
    refine XS.istore X0.here hx rfl (hb hby at_10) rfl (l' := #[.val (.long vx), .second, .val (.int vp), .val (.int vg), .val (.long vy), .second, .val (.int vn), .val (.int (vp &&& (7 : Int32))), .val (.int (vg &&& (7 : Int32))), .unset, .unset, .unset, .unset, .unset, .unset, .unset, .unset, .unset, .unset, .unset, .unset, .unset]) rfl ?_
    show Steps p.tables e below (s₁.setTop (mkF m 12 #[.val (.long vx), .second, .val (.int vp), .val (.int vg), .val (.long vy), .second, .val (.int vn), .val (.int (vp &&& (7 : Int32))), .val (.int (vg &&& (7 : Int32))), .unset, .unset, .unset, .unset, .unset, .unset, .unset, .unset, .unset, .unset, .unset, .unset, .unset] [])) _
    refine XS.iload X0.here hx rfl (hb hby at_12) rfl ?_
    show Steps p.tables e below (s₁.setTop (mkF m 14 #[.val (.long vx), .second, .val (.int vp), .val (.int vg), .val (.long vy), .second, .val (.int vn), .val (.int (vp &&& (7 : Int32))), .val (.int (vg &&& (7 : Int32))), .unset, .unset, .unset, .unset, .unset, .unset, .unset, .unset, .unset, .unset, .unset, .unset, .unset] [(.int vn)])) _
    refine X0.ldcI hx hown (mvT hZ (hw _ (List.mem_of_getElem? (i := 0) rfl))) (g := (mkF m 14 #[.val (.long vx), .second, .val (.int vp), .val (.int vg), .val (.long vy), .second, .val (.int vn), .val (.int (vp &&& (7 : Int32))), .val (.int (vg &&& (7 : Int32))), .unset, .unset, .unset, .unset, .unset, .unset, .unset, .unset, .unset, .unset, .unset, .unset, .unset] [(.int vn)])) rfl (hb hby at_14) ?_
    show Steps p.tables e below (s₁.setTop (mkF m 16 #[.val (.long vx), .second, .val (.int vp), .val (.int vg), .val (.long vy), .second, .val (.int vn), .val (.int (vp &&& (7 : Int32))), .val (.int (vg &&& (7 : Int32))), .unset, .unset, .unset, .unset, .unset, .unset, .unset, .unset, .unset, .unset, .unset, .unset, .unset] [(.int (2147483647 : Int32)), (.int vn)])) _
    refine XS.iand X0.here hx rfl (hb hby at_16) rfl ?_
    show Steps p.tables e below (s₁.setTop (mkF m 17 #[.val (.long vx), .second, .val (.int vp), .val (.int vg), .val (.long vy), .second, .val (.int vn), .val (.int (vp &&& (7 : Int32))), .val (.int (vg &&& (7 : Int32))), .unset, .unset, .unset, .unset, .unset, .unset, .unset, .unset, .unset, .unset, .unset, .unset, .unset] [(.int (vn &&& (2147483647 : Int32)))])) _
    refine XS.bipush X0.here hx rfl (hb hby at_17) ?_
    show Steps p.tables e below (s₁.setTop (mkF m 19 #[.val (.long vx), .second, .val (.int vp), .val (.int vg), .val (.long vy), .second, .val (.int vn), .val (.int (vp &&& (7 : Int32))), .val (.int (vg &&& (7 : Int32))), .unset, .unset, .unset, .unset, .unset, .unset, .unset, .unset, .unset, .unset, .unset, .unset, .unset] [(.int (64 : Int32)), (.int (vn &&& (2147483647 : Int32)))])) _
    refine iremM X0 hx rfl (hb hby at_19) rfl (by decide) ?_
    show Steps p.tables e below (s₁.setTop (mkF m 20 #[.val (.long vx), .second, .val (.int vp), .val (.int vg), .val (.long vy), .second, .val (.int vn), .val (.int (vp &&& (7 : Int32))), .val (.int (vg &&& (7 : Int32))), .unset, .unset, .unset, .unset, .unset, .unset, .unset, .unset, .unset, .unset, .unset, .unset, .unset] [(.int ((vn &&& (2147483647 : Int32)) % (64 : Int32)))])) _
    refine XS.istore X0.here hx rfl (hb hby at_20) rfl (l' := #[.val (.long vx), .second, .val (.int vp), .val (.int vg), .val (.long vy), .second, .val (.int vn), .val (.int (vp &&& (7 : Int32))), .val (.int (vg &&& (7 : Int32))), .val (.int ((vn &&& (2147483647 : Int32)) % (64 : Int32))), .unset, .unset, .unset, .unset, .unset, .unset, .unset, .unset, .unset, .unset, .unset, .unset]) rfl ?_
    show Steps p.tables e below (s₁.setTop (mkF m 22 #[.val (.long vx), .second, .val (.int vp), .val (.int vg), .val (.long vy), .second, .val (.int vn), .val (.int (vp &&& (7 : Int32))), .val (.int (vg &&& (7 : Int32))), .val (.int ((vn &&& (2147483647 : Int32)) % (64 : Int32))), .unset, .unset, .unset, .unset, .unset, .unset, .unset, .unset, .unset, .unset, .unset, .unset] [])) _
    refine XS.iload X0.here hx rfl (hb hby at_22) rfl ?_
    show Steps p.tables e below (s₁.setTop (mkF m 24 #[.val (.long vx), .second, .val (.int vp), .val (.int vg), .val (.long vy), .second, .val (.int vn), .val (.int (vp &&& (7 : Int32))), .val (.int (vg &&& (7 : Int32))), .val (.int ((vn &&& (2147483647 : Int32)) % (64 : Int32))), .unset, .unset, .unset, .unset, .unset, .unset, .unset, .unset, .unset, .unset, .unset, .unset] [(.int (vp &&& (7 : Int32)))])) _
    refine XS.iload X0.here hx rfl (hb hby at_24) rfl ?_
    show Steps p.tables e below (s₁.setTop (mkF m 26 #[.val (.long vx), .second, .val (.int vp), .val (.int vg), .val (.long vy), .second, .val (.int vn), .val (.int (vp &&& (7 : Int32))), .val (.int (vg &&& (7 : Int32))), .val (.int ((vn &&& (2147483647 : Int32)) % (64 : Int32))), .unset, .unset, .unset, .unset, .unset, .unset, .unset, .unset, .unset, .unset, .unset, .unset] [(.int (vg &&& (7 : Int32))), (.int (vp &&& (7 : Int32)))])) _
    refine XS.iadd X0.here hx rfl (hb hby at_26) rfl ?_
    show Steps p.tables e below (s₁.setTop (mkF m 27 #[.val (.long vx), .second, .val (.int vp), .val (.int vg), .val (.long vy), .second, .val (.int vn), .val (.int (vp &&& (7 : Int32))), .val (.int (vg &&& (7 : Int32))), .val (.int ((vn &&& (2147483647 : Int32)) % (64 : Int32))), .unset, .unset, .unset, .unset, .unset, .unset, .unset, .unset, .unset, .unset, .unset, .unset] [(.int ((vp &&& (7 : Int32)) + (vg &&& (7 : Int32))))])) _
    refine XS.iload X0.here hx rfl (hb hby at_27) rfl ?_
    show Steps p.tables e below (s₁.setTop (mkF m 29 #[.val (.long vx), .second, .val (.int vp), .val (.int vg), .val (.long vy), .second, .val (.int vn), .val (.int (vp &&& (7 : Int32))), .val (.int (vg &&& (7 : Int32))), .val (.int ((vn &&& (2147483647 : Int32)) % (64 : Int32))), .unset, .unset, .unset, .unset, .unset, .unset, .unset, .unset, .unset, .unset, .unset, .unset] [(.int ((vn &&& (2147483647 : Int32)) % (64 : Int32))), (.int ((vp &&& (7 : Int32)) + (vg &&& (7 : Int32))))])) _
    refine XS.iadd X0.here hx rfl (hb hby at_29) rfl ?_
    show Steps p.tables e below (s₁.setTop (mkF m 30 #[.val (.long vx), .second, .val (.int vp), .val (.int vg), .val (.long vy), .second, .val (.int vn), .val (.int (vp &&& (7 : Int32))), .val (.int (vg &&& (7 : Int32))), .val (.int ((vn &&& (2147483647 : Int32)) % (64 : Int32))), .unset, .unset, .unset, .unset, .unset, .unset, .unset, .unset, .unset, .unset, .unset, .unset] [(.int (((vp &&& (7 : Int32)) + (vg &&& (7 : Int32))) + ((vn &&& (2147483647 : Int32)) % (64 : Int32))))])) _
    refine XS.istore X0.here hx rfl (hb hby at_30) rfl (l' := #[.val (.long vx), .second, .val (.int vp), .val (.int vg), .val (.long vy), .second, .val (.int vn), .val (.int (vp &&& (7 : Int32))), .val (.int (vg &&& (7 : Int32))), .val (.int ((vn &&& (2147483647 : Int32)) % (64 : Int32))), .val (.int (((vp &&& (7 : Int32)) + (vg &&& (7 : Int32))) + ((vn &&& (2147483647 : Int32)) % (64 : Int32)))), .unset, .unset, .unset, .unset, .unset, .unset, .unset, .unset, .unset, .unset, .unset]) rfl ?_
    show Steps p.tables e below (s₁.setTop (mkF m 32 #[.val (.long vx), .second, .val (.int vp), .val (.int vg), .val (.long vy), .second, .val (.int vn), .val (.int (vp &&& (7 : Int32))), .val (.int (vg &&& (7 : Int32))), .val (.int ((vn &&& (2147483647 : Int32)) % (64 : Int32))), .val (.int (((vp &&& (7 : Int32)) + (vg &&& (7 : Int32))) + ((vn &&& (2147483647 : Int32)) % (64 : Int32)))), .unset, .unset, .unset, .unset, .unset, .unset, .unset, .unset, .unset, .unset, .unset] [])) _
    refine XS.iload X0.here hx rfl (hb hby at_32) rfl ?_
    show Steps p.tables e below (s₁.setTop (mkF m 34 #[.val (.long vx), .second, .val (.int vp), .val (.int vg), .val (.long vy), .second, .val (.int vn), .val (.int (vp &&& (7 : Int32))), .val (.int (vg &&& (7 : Int32))), .val (.int ((vn &&& (2147483647 : Int32)) % (64 : Int32))), .val (.int (((vp &&& (7 : Int32)) + (vg &&& (7 : Int32))) + ((vn &&& (2147483647 : Int32)) % (64 : Int32)))), .unset, .unset, .unset, .unset, .unset, .unset, .unset, .unset, .unset, .unset, .unset] [(.int (((vp &&& (7 : Int32)) + (vg &&& (7 : Int32))) + ((vn &&& (2147483647 : Int32)) % (64 : Int32))))])) _
    refine XS.bipush X0.here hx rfl (hb hby at_34) ?_
    show Steps p.tables e below (s₁.setTop (mkF m 36 #[.val (.long vx), .second, .val (.int vp), .val (.int vg), .val (.long vy), .second, .val (.int vn), .val (.int (vp &&& (7 : Int32))), .val (.int (vg &&& (7 : Int32))), .val (.int ((vn &&& (2147483647 : Int32)) % (64 : Int32))), .val (.int (((vp &&& (7 : Int32)) + (vg &&& (7 : Int32))) + ((vn &&& (2147483647 : Int32)) % (64 : Int32)))), .unset, .unset, .unset, .unset, .unset, .unset, .unset, .unset, .unset, .unset, .unset] [(.int (7 : Int32)), (.int (((vp &&& (7 : Int32)) + (vg &&& (7 : Int32))) + ((vn &&& (2147483647 : Int32)) % (64 : Int32))))])) _
    refine XS.iadd X0.here hx rfl (hb hby at_36) rfl ?_
    show Steps p.tables e below (s₁.setTop (mkF m 37 #[.val (.long vx), .second, .val (.int vp), .val (.int vg), .val (.long vy), .second, .val (.int vn), .val (.int (vp &&& (7 : Int32))), .val (.int (vg &&& (7 : Int32))), .val (.int ((vn &&& (2147483647 : Int32)) % (64 : Int32))), .val (.int (((vp &&& (7 : Int32)) + (vg &&& (7 : Int32))) + ((vn &&& (2147483647 : Int32)) % (64 : Int32)))), .unset, .unset, .unset, .unset, .unset, .unset, .unset, .unset, .unset, .unset, .unset] [(.int ((((vp &&& (7 : Int32)) + (vg &&& (7 : Int32))) + ((vn &&& (2147483647 : Int32)) % (64 : Int32))) + (7 : Int32)))])) _
    refine XS.bipush X0.here hx rfl (hb hby at_37) ?_
    show Steps p.tables e below (s₁.setTop (mkF m 39 #[.val (.long vx), .second, .val (.int vp), .val (.int vg), .val (.long vy), .second, .val (.int vn), .val (.int (vp &&& (7 : Int32))), .val (.int (vg &&& (7 : Int32))), .val (.int ((vn &&& (2147483647 : Int32)) % (64 : Int32))), .val (.int (((vp &&& (7 : Int32)) + (vg &&& (7 : Int32))) + ((vn &&& (2147483647 : Int32)) % (64 : Int32)))), .unset, .unset, .unset, .unset, .unset, .unset, .unset, .unset, .unset, .unset, .unset] [(.int (8 : Int32)), (.int ((((vp &&& (7 : Int32)) + (vg &&& (7 : Int32))) + ((vn &&& (2147483647 : Int32)) % (64 : Int32))) + (7 : Int32)))])) _
    refine XS.idiv X0.here hx rfl (hb hby at_39) rfl (by decide) ?_
    show Steps p.tables e below (s₁.setTop (mkF m 40 #[.val (.long vx), .second, .val (.int vp), .val (.int vg), .val (.long vy), .second, .val (.int vn), .val (.int (vp &&& (7 : Int32))), .val (.int (vg &&& (7 : Int32))), .val (.int ((vn &&& (2147483647 : Int32)) % (64 : Int32))), .val (.int (((vp &&& (7 : Int32)) + (vg &&& (7 : Int32))) + ((vn &&& (2147483647 : Int32)) % (64 : Int32)))), .unset, .unset, .unset, .unset, .unset, .unset, .unset, .unset, .unset, .unset, .unset] [(.int (((((vp &&& (7 : Int32)) + (vg &&& (7 : Int32))) + ((vn &&& (2147483647 : Int32)) % (64 : Int32))) + (7 : Int32)) / (8 : Int32)))])) _
    refine XS.istore X0.here hx rfl (hb hby at_40) rfl (l' := #[.val (.long vx), .second, .val (.int vp), .val (.int vg), .val (.long vy), .second, .val (.int vn), .val (.int (vp &&& (7 : Int32))), .val (.int (vg &&& (7 : Int32))), .val (.int ((vn &&& (2147483647 : Int32)) % (64 : Int32))), .val (.int (((vp &&& (7 : Int32)) + (vg &&& (7 : Int32))) + ((vn &&& (2147483647 : Int32)) % (64 : Int32)))), .val (.int (((((vp &&& (7 : Int32)) + (vg &&& (7 : Int32))) + ((vn &&& (2147483647 : Int32)) % (64 : Int32))) + (7 : Int32)) / (8 : Int32))), .unset, .unset, .unset, .unset, .unset, .unset, .unset, .unset, .unset, .unset]) rfl ?_
    exact kt
  obtain ⟨pp, hpp⟩ : ∃ z : Int32, z = (vp &&& (7 : Int32)) := ⟨_, rfl⟩
  obtain ⟨gg, hgg⟩ : ∃ z : Int32, z = (vg &&& (7 : Int32)) := ⟨_, rfl⟩
  obtain ⟨cc, hcc⟩ : ∃ z : Int32, z = ((vn &&& (2147483647 : Int32)) % (64 : Int32)) := ⟨_, rfl⟩
  rw [← hcc] at pre1
  rw [← hgg] at pre1
  rw [← hpp] at pre1
  obtain ⟨na, hna, ena⟩ := own_nat7 hpp
  obtain ⟨nb, hnb, enb⟩ := own_nat7 hgg
  obtain ⟨nc, hnc, enc⟩ := own_nat64 hcc
  obtain ⟨ln, hln0⟩ : ∃ z : Int32, z = ((((pp + gg) + cc) + (7 : Int32)) / (8 : Int32)) := ⟨_, rfl⟩
  rw [← hln0] at pre1
  obtain ⟨e2, he2⟩ : ∃ z : Int32, z = ((pp + gg) + cc) := ⟨_, rfl⟩
  rw [← he2] at pre1
  have hln : ln = Int32.ofNat ((na + nb + nc + 7) / 8) := own_lnn hln0 ena enb enc hna hnb hnc
  have he2n : e2 = Int32.ofNat (na + nb + nc) := own_e2n he2 ena enb enc hna hnb hnc
  have hn0 : ¬ ln < 0 := by rw [hln]; exact (own_inb (n := 12) (by omega) (by omega)).1
  have hn1 : ln.toNatClampNeg ≤ 16 := by rw [hln, own_nat32 (by omega)]; omega
  obtain ⟨_, _, ⟨T2, L2, k2, n2⟩, -, X2, ⟨Lc2, hQ2, l2, y2, z2⟩, st2⟩ := Jvm.LawKit.callS X0 hx (y := (⟨"com/example/causeline/causeline/core/BitWriterDigitsPinLaw", "mask", "(I)J"⟩ : MethodName)) hown (mvT hZ (hw _ (List.mem_of_getElem? (i := 1) rfl))) (mvT hZ (hw _ (List.mem_of_getElem? (i := 2) rfl))) (mvT hZ (hw _ (List.mem_of_getElem? (i := 3) rfl))) (mvT hZ (hw _ (List.mem_of_getElem? (i := 4) rfl))) (by decide) (backOf (W := 2) (rm1 l Z a0 hw [] pp  h0 n0 Z0 ) hZ (hw _ (List.mem_of_getElem? (i := 4) rfl)) (hw _ (List.mem_of_getElem? (i := 3) rfl)) (by decide) (by decide)) (g := (mkF m 45 #[.val (.long vx), .second, .val (.int vp), .val (.int vg), .val (.long vy), .second, .val (.int vn), .val (.int pp), .val (.int gg), .val (.int cc), .val (.int e2), .val (.int ln), .unset, .unset, .unset, .unset, .unset, .unset, .unset, .unset, .unset, .unset] [(.int pp), (.long vx)])) rfl (by rw [hml]; rfl) (argsL := [(.int pp)]) (rest := [(.long vx)]) (lenOf pd_2 rfl) rfl (by show 2 * 0 + _ ≤ _; exact Nat.le_of_eq rfl) (hb hby at_45) (fun _ _ => ⟨rfl, e0, (by decide : 0 + 0 ≤ _), (by decide : 0 + 0 ≤ _)⟩)
  dsimp only [Pt.U, Pt.locs, Pt.cells, Pt.slots] at X2 l2 y2 z2 st2 hQ2
  subst l2 y2 z2
  obtain ⟨rfl, N2q, e2q⟩ := hQ2
  have N2 := Fr.app N0 N2q
  obtain ⟨_, _, ⟨T3, L3, k3, n3⟩, -, X3, ⟨Lc3, hQ3, l3, y3, z3⟩, st3⟩ := Jvm.LawKit.callS X2 hx (y := (⟨"com/example/causeline/causeline/core/BitWriterDigitsPinLaw", "mask", "(I)J"⟩ : MethodName)) hown (mvT hZ (hw _ (List.mem_of_getElem? (i := 1) rfl))) (mvT hZ (hw _ (List.mem_of_getElem? (i := 2) rfl))) (mvT hZ (hw _ (List.mem_of_getElem? (i := 3) rfl))) (mvT hZ (hw _ (List.mem_of_getElem? (i := 4) rfl))) (by decide) (backOf (W := 2) (rm1 l Z a0 hw [] cc  h0 n0 Z0 ) hZ (hw _ (List.mem_of_getElem? (i := 4) rfl)) (hw _ (List.mem_of_getElem? (i := 3) rfl)) (by decide) (by decide)) (g := (mkF m 55 #[.val (.long vx), .second, .val (.int vp), .val (.int vg), .val (.long vy), .second, .val (.int vn), .val (.int pp), .val (.int gg), .val (.int cc), .val (.int e2), .val (.int ln), .val (.long (vx &&& (own_mask pp))), .second, .unset, .unset, .unset, .unset, .unset, .unset, .unset, .unset] [(.int cc), (.long vy)])) rfl (by rw [hml]; rfl) (argsL := [(.int cc)]) (rest := [(.long vy)]) (lenOf pd_2 rfl) rfl (by show 2 * 0 + _ ≤ _; exact Nat.le_of_eq rfl) (hb hby at_55) (fun _ _ => ⟨rfl, e2q, (by decide : 0 + 0 ≤ _), (by decide : 0 + 0 ≤ _)⟩)
  dsimp only [Pt.U, Pt.locs, Pt.cells, Pt.slots] at X3 l3 y3 z3 st3 hQ3
  subst l3 y3 z3
  obtain ⟨rfl, N3q, e3q⟩ := hQ3
  have N3 := Fr.app N2 N3q
  obtain ⟨_, _, ⟨T4, L4, k4, n4⟩, -, X4, ⟨Lc4, hQ4, l4, y4, z4⟩, st4⟩ := Jvm.LawKit.callS X3 hx (y := (⟨"com/example/causeline/causeline/core/BitWriterDigitsPinLaw", "hiOf", "(JI)J"⟩ : MethodName)) hown (mvT hZ (hw _ (List.mem_of_getElem? (i := 5) rfl))) (mvT hZ (hw _ (List.mem_of_getElem? (i := 6) rfl))) (mvT hZ (hw _ (List.mem_of_getElem? (i := 3) rfl))) (mvT hZ (hw _ (List.mem_of_getElem? (i := 7) rfl))) (by decide) (backOf (W := 0) (rm2 l Z a0 hw [] (vx &&& (own_mask pp)) pp  h0 n0 Z0 ) hZ (hw _ (List.mem_of_getElem? (i := 7) rfl)) (hw _ (List.mem_of_getElem? (i := 3) rfl)) (by decide) (by decide)) (g := (mkF m 65 #[.val (.long vx), .second, .val (.int vp), .val (.int vg), .val (.long vy), .second, .val (.int vn), .val (.int pp), .val (.int gg), .val (.int cc), .val (.int e2), .val (.int ln), .val (.long (vx &&& (own_mask pp))), .second, .val (.long (vy &&& (own_mask cc))), .second, .unset, .unset, .unset, .unset, .unset, .unset] [(.int pp), (.long (vx &&& (own_mask pp)))])) rfl (by rw [hml]; rfl) (argsL := [(.long (vx &&& (own_mask pp))), (.int pp)]) (rest := []) (lenOf pd_3 rfl) rfl (by show 2 * 0 + _ ≤ _; exact Nat.le_of_eq rfl) (hb hby at_65) (fun _ _ => ⟨rfl, e3q, (by decide : 0 + 0 ≤ _), (by decide : 0 + 0 ≤ _)⟩)
  dsimp only [Pt.U, Pt.locs, Pt.cells, Pt.slots] at X4 l4 y4 z4 st4 hQ4
  subst l4 y4 z4
  obtain ⟨rfl, N4q, e4q⟩ := hQ4
  have N4 := Fr.app N3 N4q
  obtain ⟨_, _, ⟨T5, L5, k5, n5⟩, -, X5, ⟨Lc5, hQ5, l5, y5, z5⟩, st5⟩ := Jvm.LawKit.callS X4 hx (y := (⟨"com/example/causeline/causeline/core/BitWriterDigitsPinLaw", "hiOf", "(JI)J"⟩ : MethodName)) hown (mvT hZ (hw _ (List.mem_of_getElem? (i := 5) rfl))) (mvT hZ (hw _ (List.mem_of_getElem? (i := 6) rfl))) (mvT hZ (hw _ (List.mem_of_getElem? (i := 3) rfl))) (mvT hZ (hw _ (List.mem_of_getElem? (i := 7) rfl))) (by decide) (backOf (W := 2) (rm2 l Z a0 hw [] (vy &&& (own_mask cc)) e2  h0 n0 Z0 ) hZ (hw _ (List.mem_of_getElem? (i := 7) rfl)) (hw _ (List.mem_of_getElem? (i := 3) rfl)) (by decide) (by decide)) (g := (mkF m 72 #[.val (.long vx), .second, .val (.int vp), .val (.int vg), .val (.long vy), .second, .val (.int vn), .val (.int pp), .val (.int gg), .val (.int cc), .val (.int e2), .val (.int ln), .val (.long (vx &&& (own_mask pp))), .second, .val (.long (vy &&& (own_mask cc))), .second, .unset, .unset, .unset, .unset, .unset, .unset] [(.int e2), (.long (vy &&& (own_mask cc))), (.long (own_hi (vx &&& (own_mask pp)) pp))])) rfl (by rw [hml]; rfl) (argsL := [(.long (vy &&& (own_mask cc))), (.int e2)]) (rest := [(.long (own_hi (vx &&& (own_mask pp)) pp))]) (lenOf pd_3 rfl) rfl (by show 2 * 0 + _ ≤ _; exact Nat.le_of_eq rfl) (hb hby at_72) (fun _ _ => ⟨rfl, e4q, (by decide : 0 + 0 ≤ _), (by decide : 0 + 0 ≤ _)⟩)
  dsimp only [Pt.U, Pt.locs, Pt.cells, Pt.slots] at X5 l5 y5 z5 st5 hQ5
  subst l5 y5 z5
  obtain ⟨rfl, N5q, e5q⟩ := hQ5
  have N5 := Fr.app N4 N5q
  obtain ⟨_, _, ⟨T6, L6, k6, n6⟩, -, X6, ⟨Lc6, hQ6, l6, y6, z6⟩, st6⟩ := Jvm.LawKit.callS X5 hx (y := (⟨"com/example/causeline/causeline/core/BitWriterDigitsPinLaw", "loOf", "(JI)J"⟩ : MethodName)) hown (mvT hZ (hw _ (List.mem_of_getElem? (i := 8) rfl))) (mvT hZ (hw _ (List.mem_of_getElem? (i := 9) rfl))) (mvT hZ (hw _ (List.mem_of_getElem? (i := 3) rfl))) (mvT hZ (hw _ (List.mem_of_getElem? (i := 10) rfl))) (by decide) (backOf (W := 0) (rm3 l Z a0 hw [] (vx &&& (own_mask pp)) pp  h0 n0 Z0 ) hZ (hw _ (List.mem_of_getElem? (i := 10) rfl)) (hw _ (List.mem_of_getElem? (i := 3) rfl)) (by decide) (by decide)) (g := (mkF m 82 #[.val (.long vx), .second, .val (.int vp), .val (.int vg), .val (.long vy), .second, .val (.int vn), .val (.int pp), .val (.int gg), .val (.int cc), .val (.int e2), .val (.int ln), .val (.long (vx &&& (own_mask pp))), .second, .val (.long (vy &&& (own_mask cc))), .second, .val (.long ((own_hi (vx &&& (own_mask pp)) pp) ||| (own_hi (vy &&& (own_mask cc)) e2))), .second, .unset, .unset, .unset, .unset] [(.int pp), (.long (vx &&& (own_mask pp)))])) rfl (by rw [hml]; rfl) (argsL := [(.long (vx &&& (own_mask pp))), (.int pp)]) (rest := []) (lenOf pd_3 rfl) rfl (by show 2 * 0 + _ ≤ _; exact Nat.le_of_eq rfl) (hb hby at_82) (fun _ _ => ⟨rfl, e5q, (by decide : 0 + 0 ≤ _), (by decide : 0 + 0 ≤ _)⟩)
  dsimp only [Pt.U, Pt.locs, Pt.cells, Pt.slots] at X6 l6 y6 z6 st6 hQ6
  subst l6 y6 z6
  obtain ⟨rfl, N6q, e6q⟩ := hQ6
  have N6 := Fr.app N5 N6q
  obtain ⟨_, _, ⟨T7, L7, k7, n7⟩, -, X7, ⟨Lc7, hQ7, l7, y7, z7⟩, st7⟩ := Jvm.LawKit.callS X6 hx (y := (⟨"com/example/causeline/causeline/core/BitWriterDigitsPinLaw", "loOf", "(JI)J"⟩ : MethodName)) hown (mvT hZ (hw _ (List.mem_of_getElem? (i := 8) rfl))) (mvT hZ (hw _ (List.mem_of_getElem? (i := 9) rfl))) (mvT hZ (hw _ (List.mem_of_getElem? (i := 3) rfl))) (mvT hZ (hw _ (List.mem_of_getElem? (i := 10) rfl))) (by decide) (backOf (W := 2) (rm3 l Z a0 hw [] (vy &&& (own_mask cc)) e2  h0 n0 Z0 ) hZ (hw _ (List.mem_of_getElem? (i := 10) rfl)) (hw _ (List.mem_of_getElem? (i := 3) rfl)) (by decide) (by decide)) (g := (mkF m 89 #[.val (.long vx), .second, .val (.int vp), .val (.int vg), .val (.long vy), .second, .val (.int vn), .val (.int pp), .val (.int gg), .val (.int cc), .val (.int e2), .val (.int ln), .val (.long (vx &&& (own_mask pp))), .second, .val (.long (vy &&& (own_mask cc))), .second, .val (.long ((own_hi (vx &&& (own_mask pp)) pp) ||| (own_hi (vy &&& (own_mask cc)) e2))), .second, .unset, .unset, .unset, .unset] [(.int e2), (.long (vy &&& (own_mask cc))), (.long (own_lo (vx &&& (own_mask pp)) pp))])) rfl (by rw [hml]; rfl) (argsL := [(.long (vy &&& (own_mask cc))), (.int e2)]) (rest := [(.long (own_lo (vx &&& (own_mask pp)) pp))]) (lenOf pd_3 rfl) rfl (by show 2 * 0 + _ ≤ _; exact Nat.le_of_eq rfl) (hb hby at_89) (fun _ _ => ⟨rfl, e6q, (by decide : 0 + 0 ≤ _), (by decide : 0 + 0 ≤ _)⟩)
  dsimp only [Pt.U, Pt.locs, Pt.cells, Pt.slots] at X7 l7 y7 z7 st7 hQ7
  subst l7 y7 z7
  obtain ⟨rfl, N7q, e7q⟩ := hQ7
  have N7 := Fr.app N6 N7q
  have pre8 : ∀ t, Steps p.tables e below (T7.setTop (mkF m 95 #[.val (.long vx), .second, .val (.int vp), .val (.int vg), .val (.long vy), .second, .val (.int vn), .val (.int pp), .val (.int gg), .val (.int cc), .val (.int e2), .val (.int ln), .val (.long (vx &&& (own_mask pp))), .second, .val (.long (vy &&& (own_mask cc))), .second, .val (.long ((own_hi (vx &&& (own_mask pp)) pp) ||| (own_hi (vy &&& (own_mask cc)) e2))), .second, .val (.long ((own_lo (vx &&& (own_mask pp)) pp) ||| (own_lo (vy &&& (own_mask cc)) e2))), .second, .unset, .unset] [])) t → Steps p.tables e below (s₁.setTop (entryFrame m #[(.long vx), (.int vp), (.int vg), (.long vy), (.int vn)] maxLocals)) t := by
    intro t kt
    refine pre1 t ?_
    show Steps p.tables e below (s₁.setTop (mkF m 42 #[.val (.long vx), .second, .val (.int vp), .val (.int vg), .val (.long vy), .second, .val (.int vn), .val (.int pp), .val (.int gg), .val (.int cc), .val (.int e2), .val (.int ln), .unset, .unset, .unset, .unset, .unset, .unset, .unset, .unset, .unset, .unset] [])) _
    refine XS.lloadN X0.here hx rfl (hb hby at_42) rfl ?_
    show Steps p.tables e below (s₁.setTop (mkF m 43 #[.val (.long vx), .second, .val (.int vp), .val (.int vg), .val (.long vy), .second, .val (.int vn), .val (.int pp), .val (.int gg), .val (.int cc), .val (.int e2), .val (.int ln), .unset, .unset, .unset, .unset, .unset, .unset, .unset, .unset, .unset, .unset] [(.long vx)])) _
    refine XS.iload X0.here hx rfl (hb hby at_43) rfl ?_
    show Steps p.tables e below (s₁.setTop (mkF m 45 #[.val (.long vx), .second, .val (.int vp), .val (.int vg), .val (.long vy), .second, .val (.int vn), .val (.int pp), .val (.int gg), .val (.int cc), .val (.int e2), .val (.int ln), .unset, .unset, .unset, .unset, .unset, .unset, .unset, .unset, .unset, .unset] [(.int pp), (.long vx)])) _
    refine st2 _ ?_
    show Steps p.tables e below (T2.setTop (mkF m 48 #[.val (.long vx), .second, .val (.int vp), .val (.int vg), .val (.long vy), .second, .val (.int vn), .val (.int pp), .val (.int gg), .val (.int cc), .val (.int e2), .val (.int ln), .unset, .unset, .unset, .unset, .unset, .unset, .unset, .unset, .unset, .unset] [(.long (own_mask pp)), (.long vx)])) _
    refine XS.land X2.here hx rfl (hb hby at_48) rfl ?_
    show Steps p.tables e below (T2.setTop (mkF m 49 #[.val (.long vx), .second, .val (.int vp), .val (.int vg), .val (.long vy), .second, .val (.int vn), .val (.int pp), .val (.int gg), .val (.int cc), .val (.int e2), .val (.int ln), .unset, .unset, .unset, .unset, .unset, .unset, .unset, .unset, .unset, .unset] [(.long (vx &&& (own_mask pp)))])) _
    refine XS.lstore X2.here hx rfl (hb hby at_49) rfl (l' := #[.val (.long vx), .second, .val (.int vp), .val (.int vg), .val (.long vy), .second, .val (.int vn), .val (.int pp), .val (.int gg), .val (.int cc), .val (.int e2), .val (.int ln), .val (.long (vx &&& (own_mask pp))), .second, .unset, .unset, .unset, .unset, .unset, .unset, .unset, .unset]) rfl ?_
    show Steps p.tables e below (T2.setTop (mkF m 51 #[.val (.long vx), .second, .val (.int vp), .val (.int vg), .val (.long vy), .second, .val (.int vn), .val (.int pp), .val (.int gg), .val (.int cc), .val (.int e2), .val (.int ln), .val (.long (vx &&& (own_mask pp))), .second, .unset, .unset, .unset, .unset, .unset, .unset, .unset, .unset] [])) _
    refine XS.lload X2.here hx rfl (hb hby at_51) rfl ?_
    show Steps p.tables e below (T2.setTop (mkF m 53 #[.val (.long vx), .second, .val (.int vp), .val (.int vg), .val (.long vy), .second, .val (.int vn), .val (.int pp), .val (.int gg), .val (.int cc), .val (.int e2), .val (.int ln), .val (.long (vx &&& (own_mask pp))), .second, .unset, .unset, .unset, .unset, .unset, .unset, .unset, .unset] [(.long vy)])) _
    refine XS.iload X2.here hx rfl (hb hby at_53) rfl ?_
    show Steps p.tables e below (T2.setTop (mkF m 55 #[.val (.long vx), .second, .val (.int vp), .val (.int vg), .val (.long vy), .second, .val (.int vn), .val (.int pp), .val (.int gg), .val (.int cc), .val (.int e2), .val (.int ln), .val (.long (vx &&& (own_mask pp))), .second, .unset, .unset, .unset, .unset, .unset, .unset, .unset, .unset] [(.int cc), (.long vy)])) _
    refine st3 _ ?_
    show Steps p.tables e below (T3.setTop (mkF m 58 #[.val (.long vx), .second, .val (.int vp), .val (.int vg), .val (.long vy), .second, .val (.int vn), .val (.int pp), .val (.int gg), .val (.int cc), .val (.int e2), .val (.int ln), .val (.long (vx &&& (own_mask pp))), .second, .unset, .unset, .unset, .unset, .unset, .unset, .unset, .unset] [(.long (own_mask cc)), (.long vy)])) _
    refine XS.land X3.here hx rfl (hb hby at_58) rfl ?_
    show Steps p.tables e below (T3.setTop (mkF m 59 #[.val (.long vx), .second, .val (.int vp), .val (.int vg), .val (.long vy), .second, .val (.int vn), .val (.int pp), .val (.int gg), .val (.int cc), .val (.int e2), .val (.int ln), .val (.long (vx &&& (own_mask pp))), .second, .unset, .unset, .unset, .unset, .unset, .unset, .unset, .unset] [(.long (vy &&& (own_mask cc)))])) _
    refine XS.lstore X3.here hx rfl (hb hby at_59) rfl (l' := #[.val (.long vx), .second, .val (.int vp), .val (.int vg), .val (.long vy), .second, .val (.int vn), .val (.int pp), .val (.int gg), .val (.int cc), .val (.int e2), .val (.int ln), .val (.long (vx &&& (own_mask pp))), .second, .val (.long (vy &&& (own_mask cc))), .second, .unset, .unset, .unset, .unset, .unset, .unset]) rfl ?_
    show Steps p.tables e below (T3.setTop (mkF m 61 #[.val (.long vx), .second, .val (.int vp), .val (.int vg), .val (.long vy), .second, .val (.int vn), .val (.int pp), .val (.int gg), .val (.int cc), .val (.int e2), .val (.int ln), .val (.long (vx &&& (own_mask pp))), .second, .val (.long (vy &&& (own_mask cc))), .second, .unset, .unset, .unset, .unset, .unset, .unset] [])) _
    refine XS.lload X3.here hx rfl (hb hby at_61) rfl ?_
    show Steps p.tables e below (T3.setTop (mkF m 63 #[.val (.long vx), .second, .val (.int vp), .val (.int vg), .val (.long vy), .second, .val (.int vn), .val (.int pp), .val (.int gg), .val (.int cc), .val (.int e2), .val (.int ln), .val (.long (vx &&& (own_mask pp))), .second, .val (.long (vy &&& (own_mask cc))), .second, .unset, .unset, .unset, .unset, .unset, .unset] [(.long (vx &&& (own_mask pp)))])) _
    refine XS.iload X3.here hx rfl (hb hby at_63) rfl ?_
    show Steps p.tables e below (T3.setTop (mkF m 65 #[.val (.long vx), .second, .val (.int vp), .val (.int vg), .val (.long vy), .second, .val (.int vn), .val (.int pp), .val (.int gg), .val (.int cc), .val (.int e2), .val (.int ln), .val (.long (vx &&& (own_mask pp))), .second, .val (.long (vy &&& (own_mask cc))), .second, .unset, .unset, .unset, .unset, .unset, .unset] [(.int pp), (.long (vx &&& (own_mask pp)))])) _
    refine st4 _ ?_
    show Steps p.tables e below (T4.setTop (mkF m 68 #[.val (.long vx), .second, .val (.int vp), .val (.int vg), .val (.long vy), .second, .val (.int vn), .val (.int pp), .val (.int gg), .val (.int cc), .val (.int e2), .val (.int ln), .val (.long (vx &&& (own_mask pp))), .second, .val (.long (vy &&& (own_mask cc))), .second, .unset, .unset, .unset, .unset, .unset, .unset] [(.long (own_hi (vx &&& (own_mask pp)) pp))])) _
    refine XS.lload X4.here hx rfl (hb hby at_68) rfl ?_
    show Steps p.tables e below (T4.setTop (mkF m 70 #[.val (.long vx), .second, .val (.int vp), .val (.int vg), .val (.long vy), .second, .val (.int vn), .val (.int pp), .val (.int gg), .val (.int cc), .val (.int e2), .val (.int ln), .val (.long (vx &&& (own_mask pp))), .second, .val (.long (vy &&& (own_mask cc))), .second, .unset, .unset, .unset, .unset, .unset, .unset] [(.long (vy &&& (own_mask cc))), (.long (own_hi (vx &&& (own_mask pp)) pp))])) _
    refine XS.iload X4.here hx rfl (hb hby at_70) rfl ?_
    show Steps p.tables e below (T4.setTop (mkF m 72 #[.val (.long vx), .second, .val (.int vp), .val (.int vg), .val (.long vy), .second, .val (.int vn), .val (.int pp), .val (.int gg), .val (.int cc), .val (.int e2), .val (.int ln), .val (.long (vx &&& (own_mask pp))), .second, .val (.long (vy &&& (own_mask cc))), .second, .unset, .unset, .unset, .unset, .unset, .unset] [(.int e2), (.long (vy &&& (own_mask cc))), (.long (own_hi (vx &&& (own_mask pp)) pp))])) _
    refine st5 _ ?_
    show Steps p.tables e below (T5.setTop (mkF m 75 #[.val (.long vx), .second, .val (.int vp), .val (.int vg), .val (.long vy), .second, .val (.int vn), .val (.int pp), .val (.int gg), .val (.int cc), .val (.int e2), .val (.int ln), .val (.long (vx &&& (own_mask pp))), .second, .val (.long (vy &&& (own_mask cc))), .second, .unset, .unset, .unset, .unset, .unset, .unset] [(.long (own_hi (vy &&& (own_mask cc)) e2)), (.long (own_hi (vx &&& (own_mask pp)) pp))])) _
    refine XS.lor X5.here hx rfl (hb hby at_75) rfl ?_
    show Steps p.tables e below (T5.setTop (mkF m 76 #[.val (.long vx), .second, .val (.int vp), .val (.int vg), .val (.long vy), .second, .val (.int vn), .val (.int pp), .val (.int gg), .val (.int cc), .val (.int e2), .val (.int ln), .val (.long (vx &&& (own_mask pp))), .second, .val (.long (vy &&& (own_mask cc))), .second, .unset, .unset, .unset, .unset, .unset, .unset] [(.long ((own_hi (vx &&& (own_mask pp)) pp) ||| (own_hi (vy &&& (own_mask cc)) e2)))])) _
    refine XS.lstore X5.here hx rfl (hb hby at_76) rfl (l' := #[.val (.long vx), .second, .val (.int vp), .val (.int vg), .val (.long vy), .second, .val (.int vn), .val (.int pp), .val (.int gg), .val (.int cc), .val (.int e2), .val (.int ln), .val (.long (vx &&& (own_mask pp))), .second, .val (.long (vy &&& (own_mask cc))), .second, .val (.long ((own_hi (vx &&& (own_mask pp)) pp) ||| (own_hi (vy &&& (own_mask cc)) e2))), .second, .unset, .unset, .unset, .unset]) rfl ?_
    show Steps p.tables e below (T5.setTop (mkF m 78 #[.val (.long vx), .second, .val (.int vp), .val (.int vg), .val (.long vy), .second, .val (.int vn), .val (.int pp), .val (.int gg), .val (.int cc), .val (.int e2), .val (.int ln), .val (.long (vx &&& (own_mask pp))), .second, .val (.long (vy &&& (own_mask cc))), .second, .val (.long ((own_hi (vx &&& (own_mask pp)) pp) ||| (own_hi (vy &&& (own_mask cc)) e2))), .second, .unset, .unset, .unset, .unset] [])) _
    refine XS.lload X5.here hx rfl (hb hby at_78) rfl ?_
    show Steps p.tables e below (T5.setTop (mkF m 80 #[.val (.long vx), .second, .val (.int vp), .val (.int vg), .val (.long vy), .second, .val (.int vn), .val (.int pp), .val (.int gg), .val (.int cc), .val (.int e2), .val (.int ln), .val (.long (vx &&& (own_mask pp))), .second, .val (.long (vy &&& (own_mask cc))), .second, .val (.long ((own_hi (vx &&& (own_mask pp)) pp) ||| (own_hi (vy &&& (own_mask cc)) e2))), .second, .unset, .unset, .unset, .unset] [(.long (vx &&& (own_mask pp)))])) _
    refine XS.iload X5.here hx rfl (hb hby at_80) rfl ?_
    show Steps p.tables e below (T5.setTop (mkF m 82 #[.val (.long vx), .second, .val (.int vp), .val (.int vg), .val (.long vy), .second, .val (.int vn), .val (.int pp), .val (.int gg), .val (.int cc), .val (.int e2), .val (.int ln), .val (.long (vx &&& (own_mask pp))), .second, .val (.long (vy &&& (own_mask cc))), .second, .val (.long ((own_hi (vx &&& (own_mask pp)) pp) ||| (own_hi (vy &&& (own_mask cc)) e2))), .second, .unset, .unset, .unset, .unset] [(.int pp), (.long (vx &&& (own_mask pp)))])) _
    refine st6 _ ?_
    show Steps p.tables e below (T6.setTop (mkF m 85 #[.val (.long vx), .second, .val (.int vp), .val (.int vg), .val (.long vy), .second, .val (.int vn), .val (.int pp), .val (.int gg), .val (.int cc), .val (.int e2), .val (.int ln), .val (.long (vx &&& (own_mask pp))), .second, .val (.long (vy &&& (own_mask cc))), .second, .val (.long ((own_hi (vx &&& (own_mask pp)) pp) ||| (own_hi (vy &&& (own_mask cc)) e2))), .second, .unset, .unset, .unset, .unset] [(.long (own_lo (vx &&& (own_mask pp)) pp))])) _
    refine XS.lload X6.here hx rfl (hb hby at_85) rfl ?_
    show Steps p.tables e below (T6.setTop (mkF m 87 #[.val (.long vx), .second, .val (.int vp), .val (.int vg), .val (.long vy), .second, .val (.int vn), .val (.int pp), .val (.int gg), .val (.int cc), .val (.int e2), .val (.int ln), .val (.long (vx &&& (own_mask pp))), .second, .val (.long (vy &&& (own_mask cc))), .second, .val (.long ((own_hi (vx &&& (own_mask pp)) pp) ||| (own_hi (vy &&& (own_mask cc)) e2))), .second, .unset, .unset, .unset, .unset] [(.long (vy &&& (own_mask cc))), (.long (own_lo (vx &&& (own_mask pp)) pp))])) _
    refine XS.iload X6.here hx rfl (hb hby at_87) rfl ?_
    show Steps p.tables e below (T6.setTop (mkF m 89 #[.val (.long vx), .second, .val (.int vp), .val (.int vg), .val (.long vy), .second, .val (.int vn), .val (.int pp), .val (.int gg), .val (.int cc), .val (.int e2), .val (.int ln), .val (.long (vx &&& (own_mask pp))), .second, .val (.long (vy &&& (own_mask cc))), .second, .val (.long ((own_hi (vx &&& (own_mask pp)) pp) ||| (own_hi (vy &&& (own_mask cc)) e2))), .second, .unset, .unset, .unset, .unset] [(.int e2), (.long (vy &&& (own_mask cc))), (.long (own_lo (vx &&& (own_mask pp)) pp))])) _
    refine st7 _ ?_
    show Steps p.tables e below (T7.setTop (mkF m 92 #[.val (.long vx), .second, .val (.int vp), .val (.int vg), .val (.long vy), .second, .val (.int vn), .val (.int pp), .val (.int gg), .val (.int cc), .val (.int e2), .val (.int ln), .val (.long (vx &&& (own_mask pp))), .second, .val (.long (vy &&& (own_mask cc))), .second, .val (.long ((own_hi (vx &&& (own_mask pp)) pp) ||| (own_hi (vy &&& (own_mask cc)) e2))), .second, .unset, .unset, .unset, .unset] [(.long (own_lo (vy &&& (own_mask cc)) e2)), (.long (own_lo (vx &&& (own_mask pp)) pp))])) _
    refine XS.lor X7.here hx rfl (hb hby at_92) rfl ?_
    show Steps p.tables e below (T7.setTop (mkF m 93 #[.val (.long vx), .second, .val (.int vp), .val (.int vg), .val (.long vy), .second, .val (.int vn), .val (.int pp), .val (.int gg), .val (.int cc), .val (.int e2), .val (.int ln), .val (.long (vx &&& (own_mask pp))), .second, .val (.long (vy &&& (own_mask cc))), .second, .val (.long ((own_hi (vx &&& (own_mask pp)) pp) ||| (own_hi (vy &&& (own_mask cc)) e2))), .second, .unset, .unset, .unset, .unset] [(.long ((own_lo (vx &&& (own_mask pp)) pp) ||| (own_lo (vy &&& (own_mask cc)) e2)))])) _
    refine XS.lstore X7.here hx rfl (hb hby at_93) rfl (l' := #[.val (.long vx), .second, .val (.int vp), .val (.int vg), .val (.long vy), .second, .val (.int vn), .val (.int pp), .val (.int gg), .val (.int cc), .val (.int e2), .val (.int ln), .val (.long (vx &&& (own_mask pp))), .second, .val (.long (vy &&& (own_mask cc))), .second, .val (.long ((own_hi (vx &&& (own_mask pp)) pp) ||| (own_hi (vy &&& (own_mask cc)) e2))), .second, .val (.long ((own_lo (vx &&& (own_mask pp)) pp) ||| (own_lo (vy &&& (own_mask cc)) e2))), .second, .unset, .unset]) rfl ?_
    exact kt
  obtain ⟨hi_, hhi_⟩ : ∃ z : Int64, z = ((own_hi (vx &&& (own_mask pp)) pp) ||| (own_hi (vy &&& (own_mask cc)) e2)) := ⟨_, rfl⟩
  rw [← hhi_] at pre8
  obtain ⟨lo_, hlo_⟩ : ∃ z : Int64, z = ((own_lo (vx &&& (own_mask pp)) pp) ||| (own_lo (vy &&& (own_mask cc)) e2)) := ⟨_, rfl⟩
  rw [← hlo_] at pre8
  obtain ⟨T9, h9, X9, e9, E9, A9, D9, -, st9⟩ := newO X7 hx hZ hown (hw _ (List.mem_of_getElem? (i := 11) rfl)) (hw _ (List.mem_of_getElem? (i := 12) rfl)) (hw _ (List.mem_of_getElem? (i := 13) rfl)) e7q (g := (mkF m 95 #[.val (.long vx), .second, .val (.int vp), .val (.int vg), .val (.long vy), .second, .val (.int vn), .val (.int pp), .val (.int gg), .val (.int cc), .val (.int e2), .val (.int ln), .val (.long (vx &&& (own_mask pp))), .second, .val (.long (vy &&& (own_mask cc))), .second, .val (.long hi_), .second, .val (.long lo_), .second, .unset, .unset] [])) rfl (hb hby at_95) (by decide) (by decide)
  obtain ⟨b9, g9⟩ : ∃ z, z = h0.size := ⟨_, rfl⟩
  rw [← g9] at A9 D9 st9
  have g_b9 : n0 ≤ b9 := Nat.le_trans Z0 (Nat.le_of_eq g9.symm)
  have sz_b9 : h0.size ≤ b9 := Nat.le_trans (Keep.refl h0 []).1 (Nat.le_of_eq g9.symm)
  have Z9 : n0 ≤ h9.size := Nat.le_trans Z0 E9.1
  have K9 : Keep h0 h9 [] := (Keep.refl h0 []).ext E9
  have F9_bytes : Fld Z h9 b9 "com/example/causeline/causeline/core/BitWriter" "bytes" "[B" .null := D9 (Or.inr (hw _ (List.mem_of_getElem? (i := 22) rfl))) (ty := (.array .byte)) (by decide)
  have F9_at : Fld Z h9 b9 "com/example/causeline/causeline/core/BitWriter" "at" "J" (.long (0 : Int64)) := D9 (Or.inl (hw _ (List.mem_of_getElem? (i := 29) rfl))) (ty := .long) (by decide)
  obtain ⟨_, _, ⟨T10, L10, k10, n10⟩, -, X10, ⟨Lc10, hQ10, l10, y10, z10⟩, st10⟩ := X9.specialBack hx (y := (⟨"com/example/causeline/causeline/core/BitWriter", "<init>", "(I)V"⟩ : MethodName)) rfl hown (mvT hZ (hw _ (List.mem_of_getElem? (i := 14) rfl))) (mvT hZ (hw _ (List.mem_of_getElem? (i := 15) rfl))) (mvT hZ (hw _ (List.mem_of_getElem? (i := 16) rfl))) (by decide) (backOf (W := 1) (rm4 l Z a0 hw [] b9 ln  h9 n0 Z9 A9 F9_bytes F9_at g_b9 hn0 hn1) hZ (hw _ (List.mem_of_getElem? (i := 16) rfl)) (hw _ (List.mem_of_getElem? (i := 13) rfl)) (by decide) (by decide)) (g := (mkF m 101 #[.val (.long vx), .second, .val (.int vp), .val (.int vg), .val (.long vy), .second, .val (.int vn), .val (.int pp), .val (.int gg), .val (.int cc), .val (.int e2), .val (.int ln), .val (.long (vx &&& (own_mask pp))), .second, .val (.long (vy &&& (own_mask cc))), .second, .val (.long hi_), .second, .val (.long lo_), .second, .unset, .unset] [(.int ln), (.ref b9), (.ref b9)])) rfl (by rw [hml]; rfl) (Steps.refl _) (a := b9) (argsL := [(.int ln)]) (rest := [(.ref b9)]) (lenOf pd_4 rfl) rfl (by show 2 * 0 + _ ≤ _; exact Nat.le_of_eq rfl) (hb hby at_101) (fun _ _ => ⟨rfl, e9, (by decide : 1 + 1 ≤ _), (by decide : 2 + 16 ≤ _)⟩)
  dsimp only [Pt.U, Pt.locs, Pt.cells, Pt.slots] at X10 l10 y10 z10 st10 hQ10
  subst l10 y10 z10
  obtain ⟨rfl, N10q, K10q, ⟨vb10, kb10, szb10, gb10, nb10, fi10_0, fi10_1, fi10_2, fa10⟩⟩ := hQ10
  have N10 := Fr.app N7 N10q
  have Z10 : n0 ≤ T10.heap.size := Nat.le_trans Z9 K10q.1
  have c11 : Exa Z T10.heap b9 "com/example/causeline/causeline/core/BitWriter" := A9.keep K10q
  have K10 : Keep h0 T10.heap [] := K9.trans K10q (allS (Or.inr sz_b9) all0)
  have g_vb10 := gb10
  have sz_vb10 : h0.size ≤ vb10 := Nat.le_trans K9.1 szb10
  have Vr : Arv Z T10.heap vb10 kb10 .byte ln ((List.replicate ((na + nb + nc + 7) / 8) (0 : Int32)).map Value.int) (.int (0 : Int32)) := by rw [List.map_replicate]; exact fa10.pad (pad_rep [] (.int (0 : Int32)) _)
  obtain ⟨cq12, kq12, q12a, q12b, q12c⟩ := isOf hZ rfl fi10_0
  obtain ⟨_, _, ⟨T12, L12, k12, n12⟩, -, X12, ⟨Lc12, hQ12, l12, y12, z12⟩, st12⟩ := X10.virtualBack hx (y := (⟨"com/example/causeline/causeline/core/BitWriter", "digits", "(JI)V"⟩ : MethodName)) (z := (⟨"com/example/causeline/causeline/core/BitWriter", "digits", "(JI)V"⟩ : MethodName)) hown (mvT hZ (hw _ (List.mem_of_getElem? (i := 23) rfl))) (mvT hZ (hw _ (List.mem_of_getElem? (i := 24) rfl))) (notFace_of_selects (args := #[]) (mvT hZ (hw _ (List.mem_of_getElem? (i := 26) rfl)))) (mvT hZ (hw _ (List.mem_of_getElem? (i := 26) rfl))) (mvT hZ (hw _ (List.mem_of_getElem? (i := 25) rfl))) (by decide) (backOf (W := 0) (rm6 l Z a0 hw [] b9 vx pp vb10 kb10 ln 0 na (List.replicate ((na + nb + nc + 7) / 8) (0 : Int32)) T10.heap n0 Z10 fi10_0 fi10_1 fi10_2 Vr g_b9 g_vb10 nb10 ena (by omega) (by rw [List.length_replicate]; omega) (by simp only [own_digs_len, List.length_replicate]; exact hln) (by simp only [own_digs_len, List.length_replicate]; omega)) hZ (hw _ (List.mem_of_getElem? (i := 27) rfl)) (hw _ (List.mem_of_getElem? (i := 13) rfl)) (by decide) (by decide)) q12a q12c (g := (mkF m 111 #[.val (.long vx), .second, .val (.int vp), .val (.int vg), .val (.long vy), .second, .val (.int vn), .val (.int pp), .val (.int gg), .val (.int cc), .val (.int e2), .val (.int ln), .val (.long (vx &&& (own_mask pp))), .second, .val (.long (vy &&& (own_mask cc))), .second, .val (.long hi_), .second, .val (.long lo_), .second, .val (.ref b9), .unset] [(.int pp), (.long vx), (.ref b9)])) rfl (by rw [hml]; rfl) (Steps.refl _) (argsL := [(.long vx), (.int pp)]) (rest := []) (lenOf pd_5 rfl) rfl (by show 2 * 0 + _ ≤ _; exact Nat.le_of_eq rfl) (hb hby at_111) (fun _ _ => ⟨rfl, rfl, (by decide : 2 + 0 ≤ _), (by decide : 18 + 0 ≤ _)⟩)
  dsimp only [Pt.U, Pt.locs, Pt.cells, Pt.slots] at X12 l12 y12 z12 st12 hQ12
  subst l12 y12 z12
  obtain ⟨rfl, N12q, K12q, f12_0, f12_1, f12_2, f12_3⟩ := hQ12
  have N12 := Fr.app N10 N12q
  have Z12 : n0 ≤ T12.heap.size := Nat.le_trans Z10 K12q.1
  have c13 : Exa Z T12.heap b9 "com/example/causeline/causeline/core/BitWriter" := fi10_0.keep K12q
  have K12 : Keep h0 T12.heap [] := K10.trans K12q (allS (Or.inr sz_b9) (allS (Or.inr sz_vb10) all0))
  obtain ⟨cq14, kq14, q14a, q14b, q14c⟩ := isOf hZ rfl f12_0
  obtain ⟨_, _, ⟨T14, L14, k14, n14⟩, -, X14, ⟨Lc14, hQ14, l14, y14, z14⟩, st14⟩ := X12.virtualBack hx (y := (⟨"com/example/causeline/causeline/core/BitWriter", "zeros", "(J)V"⟩ : MethodName)) (z := (⟨"com/example/causeline/causeline/core/BitWriter", "zeros", "(J)V"⟩ : MethodName)) hown (mvT hZ (hw _ (List.mem_of_getElem? (i := 31) rfl))) (mvT hZ (hw _ (List.mem_of_getElem? (i := 32) rfl))) (notFace_of_selects (args := #[]) (mvT hZ (hw _ (List.mem_of_getElem? (i := 34) rfl)))) (mvT hZ (hw _ (List.mem_of_getElem? (i := 34) rfl))) (mvT hZ (hw _ (List.mem_of_getElem? (i := 33) rfl))) (by decide) (backOf (W := 0) (rm7 l Z a0 hw [] b9 (gg.toInt64) vb10 (0 + na) nb T12.heap n0 Z12 f12_0 f12_1 f12_2 g_b9 (own_i2l enb (by omega))) hZ (hw _ (List.mem_of_getElem? (i := 35) rfl)) (hw _ (List.mem_of_getElem? (i := 13) rfl)) (by decide) (by decide)) q14a q14c (g := (mkF m 119 #[.val (.long vx), .second, .val (.int vp), .val (.int vg), .val (.long vy), .second, .val (.int vn), .val (.int pp), .val (.int gg), .val (.int cc), .val (.int e2), .val (.int ln), .val (.long (vx &&& (own_mask pp))), .second, .val (.long (vy &&& (own_mask cc))), .second, .val (.long hi_), .second, .val (.long lo_), .second, .val (.ref b9), .unset] [(.long (gg.toInt64)), (.ref b9)])) rfl (by rw [hml]; rfl) (Steps.refl _) (argsL := [(.long (gg.toInt64))]) (rest := []) (lenOf pd_6 rfl) rfl (by show 2 * 0 + _ ≤ _; exact Nat.le_of_eq rfl) (hb hby at_119) (fun _ _ => ⟨rfl, rfl, (by decide : 2 + 0 ≤ _), (by decide : 18 + 0 ≤ _)⟩)
  dsimp only [Pt.U, Pt.locs, Pt.cells, Pt.slots] at X14 l14 y14 z14 st14 hQ14
  subst l14 y14 z14
  obtain ⟨rfl, N14q, K14q, f14_0, f14_1, f14_2⟩ := hQ14
  have N14 := Fr.app N12 N14q
  have Z14 : n0 ≤ T14.heap.size := Nat.le_trans Z12 K14q.1
  have c15 : Exa Z T14.heap b9 "com/example/causeline/causeline/core/BitWriter" := f12_0.keep K14q
  have c16 : Arv Z T14.heap vb10 kb10 .byte ln ((own_digs vx na (List.replicate ((na + nb + nc + 7) / 8) (0 : Int32)) 0).map Value.int) (.int (0 : Int32)) := f12_3.keep K14q (ninS (Ne.symm nb10) nin0)
  have K14 : Keep h0 T14.heap [] := K12.trans K14q (allS (Or.inr sz_b9) all0)
  obtain ⟨cq17, kq17, q17a, q17b, q17c⟩ := isOf hZ rfl f14_0
  obtain ⟨_, _, ⟨T17, L17, k17, n17⟩, -, X17, ⟨Lc17, hQ17, l17, y17, z17⟩, st17⟩ := X14.virtualBack hx (y := (⟨"com/example/causeline/causeline/core/BitWriter", "digits", "(JI)V"⟩ : MethodName)) (z := (⟨"com/example/causeline/causeline/core/BitWriter", "digits", "(JI)V"⟩ : MethodName)) hown (mvT hZ (hw _ (List.mem_of_getElem? (i := 23) rfl))) (mvT hZ (hw _ (List.mem_of_getElem? (i := 24) rfl))) (notFace_of_selects (args := #[]) (mvT hZ (hw _ (List.mem_of_getElem? (i := 26) rfl)))) (mvT hZ (hw _ (List.mem_of_getElem? (i := 26) rfl))) (mvT hZ (hw _ (List.mem_of_getElem? (i := 25) rfl))) (by decide) (backOf (W := 0) (rm6 l Z a0 hw [] b9 vy cc vb10 kb10 ln ((0 + na) + nb) nc (own_digs vx na (List.replicate ((na + nb + nc + 7) / 8) (0 : Int32)) 0) T14.heap n0 Z14 f14_0 f14_1 f14_2 c16 g_b9 g_vb10 nb10 enc (by omega) (by simp only [own_digs_len, List.length_replicate]; omega) (by simp only [own_digs_len, List.length_replicate]; exact hln) (by simp only [own_digs_len, List.length_replicate]; omega)) hZ (hw _ (List.mem_of_getElem? (i := 27) rfl)) (hw _ (List.mem_of_getElem? (i := 13) rfl)) (by decide) (by decide)) q17a q17c (g := (mkF m 128 #[.val (.long vx), .second, .val (.int vp), .val (.int vg), .val (.long vy), .second, .val (.int vn), .val (.int pp), .val (.int gg), .val (.int cc), .val (.int e2), .val (.int ln), .val (.long (vx &&& (own_mask pp))), .second, .val (.long (vy &&& (own_mask cc))), .second, .val (.long hi_), .second, .val (.long lo_), .second, .val (.ref b9), .unset] [(.int cc), (.long vy), (.ref b9)])) rfl (by rw [hml]; rfl) (Steps.refl _) (argsL := [(.long vy), (.int cc)]) (rest := []) (lenOf pd_5 rfl) rfl (by show 2 * 0 + _ ≤ _; exact Nat.le_of_eq rfl) (hb hby at_128) (fun _ _ => ⟨rfl, rfl, (by decide : 2 + 0 ≤ _), (by decide : 18 + 0 ≤ _)⟩)
  dsimp only [Pt.U, Pt.locs, Pt.cells, Pt.slots] at X17 l17 y17 z17 st17 hQ17
  subst l17 y17 z17
  obtain ⟨rfl, N17q, K17q, f17_0, f17_1, f17_2, f17_3⟩ := hQ17
  have N17 := Fr.app N14 N17q
  have Z17 : n0 ≤ T17.heap.size := Nat.le_trans Z14 K17q.1
  have c18 : Exa Z T17.heap b9 "com/example/causeline/causeline/core/BitWriter" := f14_0.keep K17q
  have K17 : Keep h0 T17.heap [] := K14.trans K17q (allS (Or.inr sz_b9) (allS (Or.inr sz_vb10) all0))
  obtain ⟨cq19, kq19, q19a, q19b, q19c⟩ := isOf hZ rfl f17_0
  obtain ⟨_, _, ⟨T19, L19, k19, n19⟩, -, X19, ⟨Lc19, hQ19, l19, y19, z19⟩, st19⟩ := X17.virtualBack hx (y := (⟨"com/example/causeline/causeline/core/BitWriter", "bytes", "()[B"⟩ : MethodName)) (z := (⟨"com/example/causeline/causeline/core/BitWriter", "bytes", "()[B"⟩ : MethodName)) hown (mvT hZ (hw _ (List.mem_of_getElem? (i := 36) rfl))) (mvT hZ (hw _ (List.mem_of_getElem? (i := 37) rfl))) (notFace_of_selects (args := #[]) (mvT hZ (hw _ (List.mem_of_getElem? (i := 39) rfl)))) (mvT hZ (hw _ (List.mem_of_getElem? (i := 39) rfl))) (mvT hZ (hw _ (List.mem_of_getElem? (i := 38) rfl))) (by decide) (backOf (W := 0) (rm8 l Z a0 hw [] b9 vb10 kb10 ln (Int64.ofNat (((0 + na) + nb) + nc)) ((own_digs vy nc (own_digs vx na (List.replicate ((na + nb + nc + 7) / 8) (0 : Int32)) 0) ((0 + na) + nb)).map Value.int) T17.heap n0 Z17 f17_1 f17_2 f17_3 (own_bc1 _ (by omega)) (own_bc2 _ (by omega) hln)) hZ (hw _ (List.mem_of_getElem? (i := 40) rfl)) (hw _ (List.mem_of_getElem? (i := 13) rfl)) (by decide) (by decide)) q19a q19c (g := (mkF m 133 #[.val (.long vx), .second, .val (.int vp), .val (.int vg), .val (.long vy), .second, .val (.int vn), .val (.int pp), .val (.int gg), .val (.int cc), .val (.int e2), .val (.int ln), .val (.long (vx &&& (own_mask pp))), .second, .val (.long (vy &&& (own_mask cc))), .second, .val (.long hi_), .second, .val (.long lo_), .second, .val (.ref b9), .unset] [(.ref b9)])) rfl (by rw [hml]; rfl) (Steps.refl _) (argsL := []) (rest := []) (lenOf pd_7 rfl) rfl (by show 2 * 0 + _ ≤ _; exact Nat.le_of_eq rfl) (hb hby at_133) (fun _ _ => ⟨rfl, rfl, (by decide : 2 + 0 ≤ _), (by decide : 18 + 0 ≤ _)⟩)
  dsimp only [Pt.U, Pt.locs, Pt.cells, Pt.slots] at X19 l19 y19 z19 st19 hQ19
  subst l19 y19 z19
  obtain ⟨rfl, N19q, e19q⟩ := hQ19
  have N19 := Fr.app N17 N19q
  obtain ⟨cl20, Ar20, q20, S20, NN20, HH20, GG20⟩ := id f17_3
  obtain ⟨_, _, ⟨T21, L21, k21, n21⟩, -, X21, ⟨Lc21, hQ21, l21, y21, z21⟩, st21⟩ := Jvm.LawKit.callS X19 hx (y := (⟨"com/example/causeline/causeline/core/BitWriterDigitsPinLaw", "at", "([BIJJI)Z"⟩ : MethodName)) hown (mvT hZ (hw _ (List.mem_of_getElem? (i := 49) rfl))) (mvT hZ (hw _ (List.mem_of_getElem? (i := 50) rfl))) (mvT hZ (hw _ (List.mem_of_getElem? (i := 3) rfl))) (mvT hZ (hw _ (List.mem_of_getElem? (i := 51) rfl))) (by decide) (backOf (W := 0) (rm11 l Z a0 hw [] vb10 ln hi_ lo_ (0 : Int32) (own_digs vy nc (own_digs vx na (List.replicate ((na + nb + nc + 7) / 8) (0 : Int32)) 0) ((0 + na) + nb)) kb10 ln T17.heap n0 Z17 f17_3 (by decide) rfl) hZ (hw _ (List.mem_of_getElem? (i := 51) rfl)) (hw _ (List.mem_of_getElem? (i := 3) rfl)) (by decide) (by decide)) (g := (mkF m 157 #[.val (.long vx), .second, .val (.int vp), .val (.int vg), .val (.long vy), .second, .val (.int vn), .val (.int pp), .val (.int gg), .val (.int cc), .val (.int e2), .val (.int ln), .val (.long (vx &&& (own_mask pp))), .second, .val (.long (vy &&& (own_mask cc))), .second, .val (.long hi_), .second, .val (.long lo_), .second, .val (.ref b9), .val (.ref vb10)] [(.int (0 : Int32)), (.long lo_), (.long hi_), (.int ln), (.ref vb10)])) rfl (by rw [hml]; rfl) (argsL := [(.ref vb10), (.int ln), (.long hi_), (.long lo_), (.int (0 : Int32))]) (rest := []) (lenOf pd_8 rfl) rfl (by show 2 * 0 + _ ≤ _; exact Nat.le_of_eq rfl) (hb hby at_157) (fun _ _ => ⟨rfl, e19q, (by decide : 2 + 0 ≤ _), (by decide : 18 + 0 ≤ _)⟩)
  dsimp only [Pt.U, Pt.locs, Pt.cells, Pt.slots] at X21 l21 y21 z21 st21 hQ21
  subst l21 y21 z21
  obtain ⟨rfl, N21q, e21q⟩ := hQ21
  have N21 := Fr.app N19 N21q
  obtain ⟨_, _, ⟨T22, L22, k22, n22⟩, -, X22, ⟨Lc22, hQ22, l22, y22, z22⟩, st22⟩ := Jvm.LawKit.callS X21 hx (y := (⟨"com/example/causeline/causeline/core/BitWriterDigitsPinLaw", "at", "([BIJJI)Z"⟩ : MethodName)) hown (mvT hZ (hw _ (List.mem_of_getElem? (i := 49) rfl))) (mvT hZ (hw _ (List.mem_of_getElem? (i := 50) rfl))) (mvT hZ (hw _ (List.mem_of_getElem? (i := 3) rfl))) (mvT hZ (hw _ (List.mem_of_getElem? (i := 51) rfl))) (by decide) (backOf (W := 0) (rm11 l Z a0 hw [] vb10 ln hi_ lo_ (1 : Int32) (own_digs vy nc (own_digs vx na (List.replicate ((na + nb + nc + 7) / 8) (0 : Int32)) 0) ((0 + na) + nb)) kb10 ln T17.heap n0 Z17 f17_3 (by decide) rfl) hZ (hw _ (List.mem_of_getElem? (i := 51) rfl)) (hw _ (List.mem_of_getElem? (i := 3) rfl)) (by decide) (by decide)) (g := (mkF m 172 #[.val (.long vx), .second, .val (.int vp), .val (.int vg), .val (.long vy), .second, .val (.int vn), .val (.int pp), .val (.int gg), .val (.int cc), .val (.int e2), .val (.int ln), .val (.long (vx &&& (own_mask pp))), .second, .val (.long (vy &&& (own_mask cc))), .second, .val (.long hi_), .second, .val (.long lo_), .second, .val (.ref b9), .val (.ref vb10)] [(.int (1 : Int32)), (.long lo_), (.long hi_), (.int ln), (.ref vb10)])) rfl (by rw [hml]; rfl) (argsL := [(.ref vb10), (.int ln), (.long hi_), (.long lo_), (.int (1 : Int32))]) (rest := []) (lenOf pd_8 rfl) rfl (by show 2 * 0 + _ ≤ _; exact Nat.le_of_eq rfl) (hb hby at_172) (fun _ _ => ⟨rfl, e21q, (by decide : 2 + 0 ≤ _), (by decide : 18 + 0 ≤ _)⟩)
  dsimp only [Pt.U, Pt.locs, Pt.cells, Pt.slots] at X22 l22 y22 z22 st22 hQ22
  subst l22 y22 z22
  obtain ⟨rfl, N22q, e22q⟩ := hQ22
  have N22 := Fr.app N21 N22q
  obtain ⟨_, _, ⟨T23, L23, k23, n23⟩, -, X23, ⟨Lc23, hQ23, l23, y23, z23⟩, st23⟩ := Jvm.LawKit.callS X22 hx (y := (⟨"com/example/causeline/causeline/core/BitWriterDigitsPinLaw", "at", "([BIJJI)Z"⟩ : MethodName)) hown (mvT hZ (hw _ (List.mem_of_getElem? (i := 49) rfl))) (mvT hZ (hw _ (List.mem_of_getElem? (i := 50) rfl))) (mvT hZ (hw _ (List.mem_of_getElem? (i := 3) rfl))) (mvT hZ (hw _ (List.mem_of_getElem? (i := 51) rfl))) (by decide) (backOf (W := 0) (rm11 l Z a0 hw [] vb10 ln hi_ lo_ (2 : Int32) (own_digs vy nc (own_digs vx na (List.replicate ((na + nb + nc + 7) / 8) (0 : Int32)) 0) ((0 + na) + nb)) kb10 ln T17.heap n0 Z17 f17_3 (by decide) rfl) hZ (hw _ (List.mem_of_getElem? (i := 51) rfl)) (hw _ (List.mem_of_getElem? (i := 3) rfl)) (by decide) (by decide)) (g := (mkF m 187 #[.val (.long vx), .second, .val (.int vp), .val (.int vg), .val (.long vy), .second, .val (.int vn), .val (.int pp), .val (.int gg), .val (.int cc), .val (.int e2), .val (.int ln), .val (.long (vx &&& (own_mask pp))), .second, .val (.long (vy &&& (own_mask cc))), .second, .val (.long hi_), .second, .val (.long lo_), .second, .val (.ref b9), .val (.ref vb10)] [(.int (2 : Int32)), (.long lo_), (.long hi_), (.int ln), (.ref vb10)])) rfl (by rw [hml]; rfl) (argsL := [(.ref vb10), (.int ln), (.long hi_), (.long lo_), (.int (2 : Int32))]) (rest := []) (lenOf pd_8 rfl) rfl (by show 2 * 0 + _ ≤ _; exact Nat.le_of_eq rfl) (hb hby at_187) (fun _ _ => ⟨rfl, e22q, (by decide : 2 + 0 ≤ _), (by decide : 18 + 0 ≤ _)⟩)
  dsimp only [Pt.U, Pt.locs, Pt.cells, Pt.slots] at X23 l23 y23 z23 st23 hQ23
  subst l23 y23 z23
  obtain ⟨rfl, N23q, e23q⟩ := hQ23
  have N23 := Fr.app N22 N23q
  obtain ⟨_, _, ⟨T24, L24, k24, n24⟩, -, X24, ⟨Lc24, hQ24, l24, y24, z24⟩, st24⟩ := Jvm.LawKit.callS X23 hx (y := (⟨"com/example/causeline/causeline/core/BitWriterDigitsPinLaw", "at", "([BIJJI)Z"⟩ : MethodName)) hown (mvT hZ (hw _ (List.mem_of_getElem? (i := 49) rfl))) (mvT hZ (hw _ (List.mem_of_getElem? (i := 50) rfl))) (mvT hZ (hw _ (List.mem_of_getElem? (i := 3) rfl))) (mvT hZ (hw _ (List.mem_of_getElem? (i := 51) rfl))) (by decide) (backOf (W := 0) (rm11 l Z a0 hw [] vb10 ln hi_ lo_ (3 : Int32) (own_digs vy nc (own_digs vx na (List.replicate ((na + nb + nc + 7) / 8) (0 : Int32)) 0) ((0 + na) + nb)) kb10 ln T17.heap n0 Z17 f17_3 (by decide) rfl) hZ (hw _ (List.mem_of_getElem? (i := 51) rfl)) (hw _ (List.mem_of_getElem? (i := 3) rfl)) (by decide) (by decide)) (g := (mkF m 202 #[.val (.long vx), .second, .val (.int vp), .val (.int vg), .val (.long vy), .second, .val (.int vn), .val (.int pp), .val (.int gg), .val (.int cc), .val (.int e2), .val (.int ln), .val (.long (vx &&& (own_mask pp))), .second, .val (.long (vy &&& (own_mask cc))), .second, .val (.long hi_), .second, .val (.long lo_), .second, .val (.ref b9), .val (.ref vb10)] [(.int (3 : Int32)), (.long lo_), (.long hi_), (.int ln), (.ref vb10)])) rfl (by rw [hml]; rfl) (argsL := [(.ref vb10), (.int ln), (.long hi_), (.long lo_), (.int (3 : Int32))]) (rest := []) (lenOf pd_8 rfl) rfl (by show 2 * 0 + _ ≤ _; exact Nat.le_of_eq rfl) (hb hby at_202) (fun _ _ => ⟨rfl, e23q, (by decide : 2 + 0 ≤ _), (by decide : 18 + 0 ≤ _)⟩)
  dsimp only [Pt.U, Pt.locs, Pt.cells, Pt.slots] at X24 l24 y24 z24 st24 hQ24
  subst l24 y24 z24
  obtain ⟨rfl, N24q, e24q⟩ := hQ24
  have N24 := Fr.app N23 N24q
  obtain ⟨_, _, ⟨T25, L25, k25, n25⟩, -, X25, ⟨Lc25, hQ25, l25, y25, z25⟩, st25⟩ := Jvm.LawKit.callS X24 hx (y := (⟨"com/example/causeline/causeline/core/BitWriterDigitsPinLaw", "at", "([BIJJI)Z"⟩ : MethodName)) hown (mvT hZ (hw _ (List.mem_of_getElem? (i := 49) rfl))) (mvT hZ (hw _ (List.mem_of_getElem? (i := 50) rfl))) (mvT hZ (hw _ (List.mem_of_getElem? (i := 3) rfl))) (mvT hZ (hw _ (List.mem_of_getElem? (i := 51) rfl))) (by decide) (backOf (W := 0) (rm11 l Z a0 hw [] vb10 ln hi_ lo_ (4 : Int32) (own_digs vy nc (own_digs vx na (List.replicate ((na + nb + nc + 7) / 8) (0 : Int32)) 0) ((0 + na) + nb)) kb10 ln T17.heap n0 Z17 f17_3 (by decide) rfl) hZ (hw _ (List.mem_of_getElem? (i := 51) rfl)) (hw _ (List.mem_of_getElem? (i := 3) rfl)) (by decide) (by decide)) (g := (mkF m 217 #[.val (.long vx), .second, .val (.int vp), .val (.int vg), .val (.long vy), .second, .val (.int vn), .val (.int pp), .val (.int gg), .val (.int cc), .val (.int e2), .val (.int ln), .val (.long (vx &&& (own_mask pp))), .second, .val (.long (vy &&& (own_mask cc))), .second, .val (.long hi_), .second, .val (.long lo_), .second, .val (.ref b9), .val (.ref vb10)] [(.int (4 : Int32)), (.long lo_), (.long hi_), (.int ln), (.ref vb10)])) rfl (by rw [hml]; rfl) (argsL := [(.ref vb10), (.int ln), (.long hi_), (.long lo_), (.int (4 : Int32))]) (rest := []) (lenOf pd_8 rfl) rfl (by show 2 * 0 + _ ≤ _; exact Nat.le_of_eq rfl) (hb hby at_217) (fun _ _ => ⟨rfl, e24q, (by decide : 2 + 0 ≤ _), (by decide : 18 + 0 ≤ _)⟩)
  dsimp only [Pt.U, Pt.locs, Pt.cells, Pt.slots] at X25 l25 y25 z25 st25 hQ25
  subst l25 y25 z25
  obtain ⟨rfl, N25q, e25q⟩ := hQ25
  have N25 := Fr.app N24 N25q
  obtain ⟨_, _, ⟨T26, L26, k26, n26⟩, -, X26, ⟨Lc26, hQ26, l26, y26, z26⟩, st26⟩ := Jvm.LawKit.callS X25 hx (y := (⟨"com/example/causeline/causeline/core/BitWriterDigitsPinLaw", "at", "([BIJJI)Z"⟩ : MethodName)) hown (mvT hZ (hw _ (List.mem_of_getElem? (i := 49) rfl))) (mvT hZ (hw _ (List.mem_of_getElem? (i := 50) rfl))) (mvT hZ (hw _ (List.mem_of_getElem? (i := 3) rfl))) (mvT hZ (hw _ (List.mem_of_getElem? (i := 51) rfl))) (by decide) (backOf (W := 0) (rm11 l Z a0 hw [] vb10 ln hi_ lo_ (5 : Int32) (own_digs vy nc (own_digs vx na (List.replicate ((na + nb + nc + 7) / 8) (0 : Int32)) 0) ((0 + na) + nb)) kb10 ln T17.heap n0 Z17 f17_3 (by decide) rfl) hZ (hw _ (List.mem_of_getElem? (i := 51) rfl)) (hw _ (List.mem_of_getElem? (i := 3) rfl)) (by decide) (by decide)) (g := (mkF m 232 #[.val (.long vx), .second, .val (.int vp), .val (.int vg), .val (.long vy), .second, .val (.int vn), .val (.int pp), .val (.int gg), .val (.int cc), .val (.int e2), .val (.int ln), .val (.long (vx &&& (own_mask pp))), .second, .val (.long (vy &&& (own_mask cc))), .second, .val (.long hi_), .second, .val (.long lo_), .second, .val (.ref b9), .val (.ref vb10)] [(.int (5 : Int32)), (.long lo_), (.long hi_), (.int ln), (.ref vb10)])) rfl (by rw [hml]; rfl) (argsL := [(.ref vb10), (.int ln), (.long hi_), (.long lo_), (.int (5 : Int32))]) (rest := []) (lenOf pd_8 rfl) rfl (by show 2 * 0 + _ ≤ _; exact Nat.le_of_eq rfl) (hb hby at_232) (fun _ _ => ⟨rfl, e25q, (by decide : 2 + 0 ≤ _), (by decide : 18 + 0 ≤ _)⟩)
  dsimp only [Pt.U, Pt.locs, Pt.cells, Pt.slots] at X26 l26 y26 z26 st26 hQ26
  subst l26 y26 z26
  obtain ⟨rfl, N26q, e26q⟩ := hQ26
  have N26 := Fr.app N25 N26q
  obtain ⟨_, _, ⟨T27, L27, k27, n27⟩, -, X27, ⟨Lc27, hQ27, l27, y27, z27⟩, st27⟩ := Jvm.LawKit.callS X26 hx (y := (⟨"com/example/causeline/causeline/core/BitWriterDigitsPinLaw", "at", "([BIJJI)Z"⟩ : MethodName)) hown (mvT hZ (hw _ (List.mem_of_getElem? (i := 49) rfl))) (mvT hZ (hw _ (List.mem_of_getElem? (i := 50) rfl))) (mvT hZ (hw _ (List.mem_of_getElem? (i := 3) rfl))) (mvT hZ (hw _ (List.mem_of_getElem? (i := 51) rfl))) (by decide) (backOf (W := 0) (rm11 l Z a0 hw [] vb10 ln hi_ lo_ (6 : Int32) (own_digs vy nc (own_digs vx na (List.replicate ((na + nb + nc + 7) / 8) (0 : Int32)) 0) ((0 + na) + nb)) kb10 ln T17.heap n0 Z17 f17_3 (by decide) rfl) hZ (hw _ (List.mem_of_getElem? (i := 51) rfl)) (hw _ (List.mem_of_getElem? (i := 3) rfl)) (by decide) (by decide)) (g := (mkF m 248 #[.val (.long vx), .second, .val (.int vp), .val (.int vg), .val (.long vy), .second, .val (.int vn), .val (.int pp), .val (.int gg), .val (.int cc), .val (.int e2), .val (.int ln), .val (.long (vx &&& (own_mask pp))), .second, .val (.long (vy &&& (own_mask cc))), .second, .val (.long hi_), .second, .val (.long lo_), .second, .val (.ref b9), .val (.ref vb10)] [(.int (6 : Int32)), (.long lo_), (.long hi_), (.int ln), (.ref vb10)])) rfl (by rw [hml]; rfl) (argsL := [(.ref vb10), (.int ln), (.long hi_), (.long lo_), (.int (6 : Int32))]) (rest := []) (lenOf pd_8 rfl) rfl (by show 2 * 0 + _ ≤ _; exact Nat.le_of_eq rfl) (hb hby at_248) (fun _ _ => ⟨rfl, e26q, (by decide : 2 + 0 ≤ _), (by decide : 18 + 0 ≤ _)⟩)
  dsimp only [Pt.U, Pt.locs, Pt.cells, Pt.slots] at X27 l27 y27 z27 st27 hQ27
  subst l27 y27 z27
  obtain ⟨rfl, N27q, e27q⟩ := hQ27
  have N27 := Fr.app N26 N27q
  obtain ⟨_, _, ⟨T28, L28, k28, n28⟩, -, X28, ⟨Lc28, hQ28, l28, y28, z28⟩, st28⟩ := Jvm.LawKit.callS X27 hx (y := (⟨"com/example/causeline/causeline/core/BitWriterDigitsPinLaw", "at", "([BIJJI)Z"⟩ : MethodName)) hown (mvT hZ (hw _ (List.mem_of_getElem? (i := 49) rfl))) (mvT hZ (hw _ (List.mem_of_getElem? (i := 50) rfl))) (mvT hZ (hw _ (List.mem_of_getElem? (i := 3) rfl))) (mvT hZ (hw _ (List.mem_of_getElem? (i := 51) rfl))) (by decide) (backOf (W := 0) (rm11 l Z a0 hw [] vb10 ln hi_ lo_ (7 : Int32) (own_digs vy nc (own_digs vx na (List.replicate ((na + nb + nc + 7) / 8) (0 : Int32)) 0) ((0 + na) + nb)) kb10 ln T17.heap n0 Z17 f17_3 (by decide) rfl) hZ (hw _ (List.mem_of_getElem? (i := 51) rfl)) (hw _ (List.mem_of_getElem? (i := 3) rfl)) (by decide) (by decide)) (g := (mkF m 264 #[.val (.long vx), .second, .val (.int vp), .val (.int vg), .val (.long vy), .second, .val (.int vn), .val (.int pp), .val (.int gg), .val (.int cc), .val (.int e2), .val (.int ln), .val (.long (vx &&& (own_mask pp))), .second, .val (.long (vy &&& (own_mask cc))), .second, .val (.long hi_), .second, .val (.long lo_), .second, .val (.ref b9), .val (.ref vb10)] [(.int (7 : Int32)), (.long lo_), (.long hi_), (.int ln), (.ref vb10)])) rfl (by rw [hml]; rfl) (argsL := [(.ref vb10), (.int ln), (.long hi_), (.long lo_), (.int (7 : Int32))]) (rest := []) (lenOf pd_8 rfl) rfl (by show 2 * 0 + _ ≤ _; exact Nat.le_of_eq rfl) (hb hby at_264) (fun _ _ => ⟨rfl, e27q, (by decide : 2 + 0 ≤ _), (by decide : 18 + 0 ≤ _)⟩)
  dsimp only [Pt.U, Pt.locs, Pt.cells, Pt.slots] at X28 l28 y28 z28 st28 hQ28
  subst l28 y28 z28
  obtain ⟨rfl, N28q, e28q⟩ := hQ28
  have N28 := Fr.app N27 N28q
  obtain ⟨_, _, ⟨T29, L29, k29, n29⟩, -, X29, ⟨Lc29, hQ29, l29, y29, z29⟩, st29⟩ := Jvm.LawKit.callS X28 hx (y := (⟨"com/example/causeline/causeline/core/BitWriterDigitsPinLaw", "at", "([BIJJI)Z"⟩ : MethodName)) hown (mvT hZ (hw _ (List.mem_of_getElem? (i := 49) rfl))) (mvT hZ (hw _ (List.mem_of_getElem? (i := 50) rfl))) (mvT hZ (hw _ (List.mem_of_getElem? (i := 3) rfl))) (mvT hZ (hw _ (List.mem_of_getElem? (i := 51) rfl))) (by decide) (backOf (W := 0) (rm11 l Z a0 hw [] vb10 ln hi_ lo_ (8 : Int32) (own_digs vy nc (own_digs vx na (List.replicate ((na + nb + nc + 7) / 8) (0 : Int32)) 0) ((0 + na) + nb)) kb10 ln T17.heap n0 Z17 f17_3 (by decide) rfl) hZ (hw _ (List.mem_of_getElem? (i := 51) rfl)) (hw _ (List.mem_of_getElem? (i := 3) rfl)) (by decide) (by decide)) (g := (mkF m 280 #[.val (.long vx), .second, .val (.int vp), .val (.int vg), .val (.long vy), .second, .val (.int vn), .val (.int pp), .val (.int gg), .val (.int cc), .val (.int e2), .val (.int ln), .val (.long (vx &&& (own_mask pp))), .second, .val (.long (vy &&& (own_mask cc))), .second, .val (.long hi_), .second, .val (.long lo_), .second, .val (.ref b9), .val (.ref vb10)] [(.int (8 : Int32)), (.long lo_), (.long hi_), (.int ln), (.ref vb10)])) rfl (by rw [hml]; rfl) (argsL := [(.ref vb10), (.int ln), (.long hi_), (.long lo_), (.int (8 : Int32))]) (rest := []) (lenOf pd_8 rfl) rfl (by show 2 * 0 + _ ≤ _; exact Nat.le_of_eq rfl) (hb hby at_280) (fun _ _ => ⟨rfl, e28q, (by decide : 2 + 0 ≤ _), (by decide : 18 + 0 ≤ _)⟩)
  dsimp only [Pt.U, Pt.locs, Pt.cells, Pt.slots] at X29 l29 y29 z29 st29 hQ29
  subst l29 y29 z29
  obtain ⟨rfl, N29q, e29q⟩ := hQ29
  have N29 := Fr.app N28 N29q
  obtain ⟨_, _, ⟨T30, L30, k30, n30⟩, -, X30, ⟨Lc30, hQ30, l30, y30, z30⟩, st30⟩ := Jvm.LawKit.callS X29 hx (y := (⟨"com/example/causeline/causeline/core/BitWriterDigitsPinLaw", "at", "([BIJJI)Z"⟩ : MethodName)) hown (mvT hZ (hw _ (List.mem_of_getElem? (i := 49) rfl))) (mvT hZ (hw _ (List.mem_of_getElem? (i := 50) rfl))) (mvT hZ (hw _ (List.mem_of_getElem? (i := 3) rfl))) (mvT hZ (hw _ (List.mem_of_getElem? (i := 51) rfl))) (by decide) (backOf (W := 0) (rm11 l Z a0 hw [] vb10 ln hi_ lo_ (9 : Int32) (own_digs vy nc (own_digs vx na (List.replicate ((na + nb + nc + 7) / 8) (0 : Int32)) 0) ((0 + na) + nb)) kb10 ln T17.heap n0 Z17 f17_3 (by decide) rfl) hZ (hw _ (List.mem_of_getElem? (i := 51) rfl)) (hw _ (List.mem_of_getElem? (i := 3) rfl)) (by decide) (by decide)) (g := (mkF m 296 #[.val (.long vx), .second, .val (.int vp), .val (.int vg), .val (.long vy), .second, .val (.int vn), .val (.int pp), .val (.int gg), .val (.int cc), .val (.int e2), .val (.int ln), .val (.long (vx &&& (own_mask pp))), .second, .val (.long (vy &&& (own_mask cc))), .second, .val (.long hi_), .second, .val (.long lo_), .second, .val (.ref b9), .val (.ref vb10)] [(.int (9 : Int32)), (.long lo_), (.long hi_), (.int ln), (.ref vb10)])) rfl (by rw [hml]; rfl) (argsL := [(.ref vb10), (.int ln), (.long hi_), (.long lo_), (.int (9 : Int32))]) (rest := []) (lenOf pd_8 rfl) rfl (by show 2 * 0 + _ ≤ _; exact Nat.le_of_eq rfl) (hb hby at_296) (fun _ _ => ⟨rfl, e29q, (by decide : 2 + 0 ≤ _), (by decide : 18 + 0 ≤ _)⟩)
  dsimp only [Pt.U, Pt.locs, Pt.cells, Pt.slots] at X30 l30 y30 z30 st30 hQ30
  subst l30 y30 z30
  obtain ⟨rfl, N30q, e30q⟩ := hQ30
  have N30 := Fr.app N29 N30q
  obtain ⟨fs, hr, hrun, hended, hW, hsame⟩ := X30.leave (v := some (.int (1 : Int32))) (fun h => by rw [Bd.returns] at h; cases h)
  refine ⟨_, _, pre8 _ ?_, hrun, hended, _, _, rfl, ?_, ⟨_, rfl⟩, hW, hsame.mono (by decide) (by decide)⟩
  ·
    show Steps p.tables e below (T7.setTop (mkF m 95 #[.val (.long vx), .second, .val (.int vp), .val (.int vg), .val (.long vy), .second, .val (.int vn), .val (.int pp), .val (.int gg), .val (.int cc), .val (.int e2), .val (.int ln), .val (.long (vx &&& (own_mask pp))), .second, .val (.long (vy &&& (own_mask cc))), .second, .val (.long hi_), .second, .val (.long lo_), .second, .unset, .unset] [])) _
    refine st9 _ ?_
    show Steps p.tables e below (T9.setTop (mkF m 98 #[.val (.long vx), .second, .val (.int vp), .val (.int vg), .val (.long vy), .second, .val (.int vn), .val (.int pp), .val (.int gg), .val (.int cc), .val (.int e2), .val (.int ln), .val (.long (vx &&& (own_mask pp))), .second, .val (.long (vy &&& (own_mask cc))), .second, .val (.long hi_), .second, .val (.long lo_), .second, .unset, .unset] [(.ref b9)])) _
    refine XS.dup X9.here hx rfl (hb hby at_98) rfl rfl ?_
    show Steps p.tables e below (T9.setTop (mkF m 99 #[.val (.long vx), .second, .val (.int vp), .val (.int vg), .val (.long vy), .second, .val (.int vn), .val (.int pp), .val (.int gg), .val (.int cc), .val (.int e2), .val (.int ln), .val (.long (vx &&& (own_mask pp))), .second, .val (.long (vy &&& (own_mask cc))), .second, .val (.long hi_), .second, .val (.long lo_), .second, .unset, .unset] [(.ref b9), (.ref b9)])) _
    refine XS.iload X9.here hx rfl (hb hby at_99) rfl ?_
    show Steps p.tables e below (T9.setTop (mkF m 101 #[.val (.long vx), .second, .val (.int vp), .val (.int vg), .val (.long vy), .second, .val (.int vn), .val (.int pp), .val (.int gg), .val (.int cc), .val (.int e2), .val (.int ln), .val (.long (vx &&& (own_mask pp))), .second, .val (.long (vy &&& (own_mask cc))), .second, .val (.long hi_), .second, .val (.long lo_), .second, .unset, .unset] [(.int ln), (.ref b9), (.ref b9)])) _
    refine st10.trans ?_
    show Steps p.tables e below (T10.setTop (mkF m 104 #[.val (.long vx), .second, .val (.int vp), .val (.int vg), .val (.long vy), .second, .val (.int vn), .val (.int pp), .val (.int gg), .val (.int cc), .val (.int e2), .val (.int ln), .val (.long (vx &&& (own_mask pp))), .second, .val (.long (vy &&& (own_mask cc))), .second, .val (.long hi_), .second, .val (.long lo_), .second, .unset, .unset] [(.ref b9)])) _
    refine XS.astore X10.here hx rfl (hb hby at_104) rfl rfl (l' := #[.val (.long vx), .second, .val (.int vp), .val (.int vg), .val (.long vy), .second, .val (.int vn), .val (.int pp), .val (.int gg), .val (.int cc), .val (.int e2), .val (.int ln), .val (.long (vx &&& (own_mask pp))), .second, .val (.long (vy &&& (own_mask cc))), .second, .val (.long hi_), .second, .val (.long lo_), .second, .val (.ref b9), .unset]) rfl ?_
    show Steps p.tables e below (T10.setTop (mkF m 106 #[.val (.long vx), .second, .val (.int vp), .val (.int vg), .val (.long vy), .second, .val (.int vn), .val (.int pp), .val (.int gg), .val (.int cc), .val (.int e2), .val (.int ln), .val (.long (vx &&& (own_mask pp))), .second, .val (.long (vy &&& (own_mask cc))), .second, .val (.long hi_), .second, .val (.long lo_), .second, .val (.ref b9), .unset] [])) _
    refine XS.aload X10.here hx rfl (hb hby at_106) rfl rfl ?_
    show Steps p.tables e below (T10.setTop (mkF m 108 #[.val (.long vx), .second, .val (.int vp), .val (.int vg), .val (.long vy), .second, .val (.int vn), .val (.int pp), .val (.int gg), .val (.int cc), .val (.int e2), .val (.int ln), .val (.long (vx &&& (own_mask pp))), .second, .val (.long (vy &&& (own_mask cc))), .second, .val (.long hi_), .second, .val (.long lo_), .second, .val (.ref b9), .unset] [(.ref b9)])) _
    refine XS.lloadN X10.here hx rfl (hb hby at_108) rfl ?_
    show Steps p.tables e below (T10.setTop (mkF m 109 #[.val (.long vx), .second, .val (.int vp), .val (.int vg), .val (.long vy), .second, .val (.int vn), .val (.int pp), .val (.int gg), .val (.int cc), .val (.int e2), .val (.int ln), .val (.long (vx &&& (own_mask pp))), .second, .val (.long (vy &&& (own_mask cc))), .second, .val (.long hi_), .second, .val (.long lo_), .second, .val (.ref b9), .unset] [(.long vx), (.ref b9)])) _
    refine XS.iload X10.here hx rfl (hb hby at_109) rfl ?_
    show Steps p.tables e below (T10.setTop (mkF m 111 #[.val (.long vx), .second, .val (.int vp), .val (.int vg), .val (.long vy), .second, .val (.int vn), .val (.int pp), .val (.int gg), .val (.int cc), .val (.int e2), .val (.int ln), .val (.long (vx &&& (own_mask pp))), .second, .val (.long (vy &&& (own_mask cc))), .second, .val (.long hi_), .second, .val (.long lo_), .second, .val (.ref b9), .unset] [(.int pp), (.long vx), (.ref b9)])) _
    refine st12.trans ?_
    show Steps p.tables e below (T12.setTop (mkF m 114 #[.val (.long vx), .second, .val (.int vp), .val (.int vg), .val (.long vy), .second, .val (.int vn), .val (.int pp), .val (.int gg), .val (.int cc), .val (.int e2), .val (.int ln), .val (.long (vx &&& (own_mask pp))), .second, .val (.long (vy &&& (own_mask cc))), .second, .val (.long hi_), .second, .val (.long lo_), .second, .val (.ref b9), .unset] [])) _
    refine XS.aload X12.here hx rfl (hb hby at_114) rfl rfl ?_
    show Steps p.tables e below (T12.setTop (mkF m 116 #[.val (.long vx), .second, .val (.int vp), .val (.int vg), .val (.long vy), .second, .val (.int vn), .val (.int pp), .val (.int gg), .val (.int cc), .val (.int e2), .val (.int ln), .val (.long (vx &&& (own_mask pp))), .second, .val (.long (vy &&& (own_mask cc))), .second, .val (.long hi_), .second, .val (.long lo_), .second, .val (.ref b9), .unset] [(.ref b9)])) _
    refine XS.iload X12.here hx rfl (hb hby at_116) rfl ?_
    show Steps p.tables e below (T12.setTop (mkF m 118 #[.val (.long vx), .second, .val (.int vp), .val (.int vg), .val (.long vy), .second, .val (.int vn), .val (.int pp), .val (.int gg), .val (.int cc), .val (.int e2), .val (.int ln), .val (.long (vx &&& (own_mask pp))), .second, .val (.long (vy &&& (own_mask cc))), .second, .val (.long hi_), .second, .val (.long lo_), .second, .val (.ref b9), .unset] [(.int gg), (.ref b9)])) _
    refine XS.i2l X12.here hx rfl (hb hby at_118) rfl ?_
    show Steps p.tables e below (T12.setTop (mkF m 119 #[.val (.long vx), .second, .val (.int vp), .val (.int vg), .val (.long vy), .second, .val (.int vn), .val (.int pp), .val (.int gg), .val (.int cc), .val (.int e2), .val (.int ln), .val (.long (vx &&& (own_mask pp))), .second, .val (.long (vy &&& (own_mask cc))), .second, .val (.long hi_), .second, .val (.long lo_), .second, .val (.ref b9), .unset] [(.long (gg.toInt64)), (.ref b9)])) _
    refine st14.trans ?_
    show Steps p.tables e below (T14.setTop (mkF m 122 #[.val (.long vx), .second, .val (.int vp), .val (.int vg), .val (.long vy), .second, .val (.int vn), .val (.int pp), .val (.int gg), .val (.int cc), .val (.int e2), .val (.int ln), .val (.long (vx &&& (own_mask pp))), .second, .val (.long (vy &&& (own_mask cc))), .second, .val (.long hi_), .second, .val (.long lo_), .second, .val (.ref b9), .unset] [])) _
    refine XS.aload X14.here hx rfl (hb hby at_122) rfl rfl ?_
    show Steps p.tables e below (T14.setTop (mkF m 124 #[.val (.long vx), .second, .val (.int vp), .val (.int vg), .val (.long vy), .second, .val (.int vn), .val (.int pp), .val (.int gg), .val (.int cc), .val (.int e2), .val (.int ln), .val (.long (vx &&& (own_mask pp))), .second, .val (.long (vy &&& (own_mask cc))), .second, .val (.long hi_), .second, .val (.long lo_), .second, .val (.ref b9), .unset] [(.ref b9)])) _
    refine XS.lload X14.here hx rfl (hb hby at_124) rfl ?_
    show Steps p.tables e below (T14.setTop (mkF m 126 #[.val (.long vx), .second, .val (.int vp), .val (.int vg), .val (.long vy), .second, .val (.int vn), .val (.int pp), .val (.int gg), .val (.int cc), .val (.int e2), .val (.int ln), .val (.long (vx &&& (own_mask pp))), .second, .val (.long (vy &&& (own_mask cc))), .second, .val (.long hi_), .second, .val (.long lo_), .second, .val (.ref b9), .unset] [(.long vy), (.ref b9)])) _
    refine XS.iload X14.here hx rfl (hb hby at_126) rfl ?_
    show Steps p.tables e below (T14.setTop (mkF m 128 #[.val (.long vx), .second, .val (.int vp), .val (.int vg), .val (.long vy), .second, .val (.int vn), .val (.int pp), .val (.int gg), .val (.int cc), .val (.int e2), .val (.int ln), .val (.long (vx &&& (own_mask pp))), .second, .val (.long (vy &&& (own_mask cc))), .second, .val (.long hi_), .second, .val (.long lo_), .second, .val (.ref b9), .unset] [(.int cc), (.long vy), (.ref b9)])) _
    refine st17.trans ?_
    show Steps p.tables e below (T17.setTop (mkF m 131 #[.val (.long vx), .second, .val (.int vp), .val (.int vg), .val (.long vy), .second, .val (.int vn), .val (.int pp), .val (.int gg), .val (.int cc), .val (.int e2), .val (.int ln), .val (.long (vx &&& (own_mask pp))), .second, .val (.long (vy &&& (own_mask cc))), .second, .val (.long hi_), .second, .val (.long lo_), .second, .val (.ref b9), .unset] [])) _
    refine XS.aload X17.here hx rfl (hb hby at_131) rfl rfl ?_
    show Steps p.tables e below (T17.setTop (mkF m 133 #[.val (.long vx), .second, .val (.int vp), .val (.int vg), .val (.long vy), .second, .val (.int vn), .val (.int pp), .val (.int gg), .val (.int cc), .val (.int e2), .val (.int ln), .val (.long (vx &&& (own_mask pp))), .second, .val (.long (vy &&& (own_mask cc))), .second, .val (.long hi_), .second, .val (.long lo_), .second, .val (.ref b9), .unset] [(.ref b9)])) _
    refine st19.trans ?_
    show Steps p.tables e below (T19.setTop (mkF m 136 #[.val (.long vx), .second, .val (.int vp), .val (.int vg), .val (.long vy), .second, .val (.int vn), .val (.int pp), .val (.int gg), .val (.int cc), .val (.int e2), .val (.int ln), .val (.long (vx &&& (own_mask pp))), .second, .val (.long (vy &&& (own_mask cc))), .second, .val (.long hi_), .second, .val (.long lo_), .second, .val (.ref b9), .unset] [(.ref vb10)])) _
    refine XS.astore X19.here hx rfl (hb hby at_136) rfl rfl (l' := #[.val (.long vx), .second, .val (.int vp), .val (.int vg), .val (.long vy), .second, .val (.int vn), .val (.int pp), .val (.int gg), .val (.int cc), .val (.int e2), .val (.int ln), .val (.long (vx &&& (own_mask pp))), .second, .val (.long (vy &&& (own_mask cc))), .second, .val (.long hi_), .second, .val (.long lo_), .second, .val (.ref b9), .val (.ref vb10)]) rfl ?_
    show Steps p.tables e below (T19.setTop (mkF m 138 #[.val (.long vx), .second, .val (.int vp), .val (.int vg), .val (.long vy), .second, .val (.int vn), .val (.int pp), .val (.int gg), .val (.int cc), .val (.int e2), .val (.int ln), .val (.long (vx &&& (own_mask pp))), .second, .val (.long (vy &&& (own_mask cc))), .second, .val (.long hi_), .second, .val (.long lo_), .second, .val (.ref b9), .val (.ref vb10)] [])) _
    refine XS.aload X19.here hx rfl (hb hby at_138) rfl rfl ?_
    show Steps p.tables e below (T19.setTop (mkF m 140 #[.val (.long vx), .second, .val (.int vp), .val (.int vg), .val (.long vy), .second, .val (.int vn), .val (.int pp), .val (.int gg), .val (.int cc), .val (.int e2), .val (.int ln), .val (.long (vx &&& (own_mask pp))), .second, .val (.long (vy &&& (own_mask cc))), .second, .val (.long hi_), .second, .val (.long lo_), .second, .val (.ref b9), .val (.ref vb10)] [(.ref vb10)])) _
    refine X19.arraylength hx (by rw [e19q]; exact Ar20.1) (State.isArrayOf_alike hZ.alike Ar20.2.1) (g := (mkF m 140 #[.val (.long vx), .second, .val (.int vp), .val (.int vg), .val (.long vy), .second, .val (.int vn), .val (.int pp), .val (.int gg), .val (.int cc), .val (.int e2), .val (.int ln), .val (.long (vx &&& (own_mask pp))), .second, .val (.long (vy &&& (own_mask cc))), .second, .val (.long hi_), .second, .val (.long lo_), .second, .val (.ref b9), .val (.ref vb10)] [(.ref vb10)])) rfl rfl (hb hby at_140) _ ?_
    rw [len_of S20 NN20]
    show Steps p.tables e below (T19.setTop (mkF m 141 #[.val (.long vx), .second, .val (.int vp), .val (.int vg), .val (.long vy), .second, .val (.int vn), .val (.int pp), .val (.int gg), .val (.int cc), .val (.int e2), .val (.int ln), .val (.long (vx &&& (own_mask pp))), .second, .val (.long (vy &&& (own_mask cc))), .second, .val (.long hi_), .second, .val (.long lo_), .second, .val (.ref b9), .val (.ref vb10)] [(.int ln)])) _
    refine XS.iload X19.here hx rfl (hb hby at_141) rfl ?_
    show Steps p.tables e below (T19.setTop (mkF m 143 #[.val (.long vx), .second, .val (.int vp), .val (.int vg), .val (.long vy), .second, .val (.int vn), .val (.int pp), .val (.int gg), .val (.int cc), .val (.int e2), .val (.int ln), .val (.long (vx &&& (own_mask pp))), .second, .val (.long (vy &&& (own_mask cc))), .second, .val (.long hi_), .second, .val (.long lo_), .second, .val (.ref b9), .val (.ref vb10)] [(.int ln), (.int ln)])) _
    refine XS.icmpYes X19.here hx rfl (pc0 := 143) (pc' := 148) rfl (hb hby at_143) rfl (teq (rfl : ln = ln)).1 (by decide) (by decide) ?_
    show Steps p.tables e below (T19.setTop (mkF m 148 #[.val (.long vx), .second, .val (.int vp), .val (.int vg), .val (.long vy), .second, .val (.int vn), .val (.int pp), .val (.int gg), .val (.int cc), .val (.int e2), .val (.int ln), .val (.long (vx &&& (own_mask pp))), .second, .val (.long (vy &&& (own_mask cc))), .second, .val (.long hi_), .second, .val (.long lo_), .second, .val (.ref b9), .val (.ref vb10)] [])) _
    refine XS.aload X19.here hx rfl (hb hby at_148) rfl rfl ?_
    show Steps p.tables e below (T19.setTop (mkF m 150 #[.val (.long vx), .second, .val (.int vp), .val (.int vg), .val (.long vy), .second, .val (.int vn), .val (.int pp), .val (.int gg), .val (.int cc), .val (.int e2), .val (.int ln), .val (.long (vx &&& (own_mask pp))), .second, .val (.long (vy &&& (own_mask cc))), .second, .val (.long hi_), .second, .val (.long lo_), .second, .val (.ref b9), .val (.ref vb10)] [(.ref vb10)])) _
    refine XS.iload X19.here hx rfl (hb hby at_150) rfl ?_
    show Steps p.tables e below (T19.setTop (mkF m 152 #[.val (.long vx), .second, .val (.int vp), .val (.int vg), .val (.long vy), .second, .val (.int vn), .val (.int pp), .val (.int gg), .val (.int cc), .val (.int e2), .val (.int ln), .val (.long (vx &&& (own_mask pp))), .second, .val (.long (vy &&& (own_mask cc))), .second, .val (.long hi_), .second, .val (.long lo_), .second, .val (.ref b9), .val (.ref vb10)] [(.int ln), (.ref vb10)])) _
    refine XS.lload X19.here hx rfl (hb hby at_152) rfl ?_
    show Steps p.tables e below (T19.setTop (mkF m 154 #[.val (.long vx), .second, .val (.int vp), .val (.int vg), .val (.long vy), .second, .val (.int vn), .val (.int pp), .val (.int gg), .val (.int cc), .val (.int e2), .val (.int ln), .val (.long (vx &&& (own_mask pp))), .second, .val (.long (vy &&& (own_mask cc))), .second, .val (.long hi_), .second, .val (.long lo_), .second, .val (.ref b9), .val (.ref vb10)] [(.long hi_), (.int ln), (.ref vb10)])) _
    refine XS.lload X19.here hx rfl (hb hby at_154) rfl ?_
    show Steps p.tables e below (T19.setTop (mkF m 156 #[.val (.long vx), .second, .val (.int vp), .val (.int vg), .val (.long vy), .second, .val (.int vn), .val (.int pp), .val (.int gg), .val (.int cc), .val (.int e2), .val (.int ln), .val (.long (vx &&& (own_mask pp))), .second, .val (.long (vy &&& (own_mask cc))), .second, .val (.long hi_), .second, .val (.long lo_), .second, .val (.ref b9), .val (.ref vb10)] [(.long lo_), (.long hi_), (.int ln), (.ref vb10)])) _
    refine XS.iconst X19.here hx rfl (hb hby at_156) ?_
    show Steps p.tables e below (T19.setTop (mkF m 157 #[.val (.long vx), .second, .val (.int vp), .val (.int vg), .val (.long vy), .second, .val (.int vn), .val (.int pp), .val (.int gg), .val (.int cc), .val (.int e2), .val (.int ln), .val (.long (vx &&& (own_mask pp))), .second, .val (.long (vy &&& (own_mask cc))), .second, .val (.long hi_), .second, .val (.long lo_), .second, .val (.ref b9), .val (.ref vb10)] [(.int (0 : Int32)), (.long lo_), (.long hi_), (.int ln), (.ref vb10)])) _
    refine st21 _ ?_
    show Steps p.tables e below (T21.setTop (mkF m 160 #[.val (.long vx), .second, .val (.int vp), .val (.int vg), .val (.long vy), .second, .val (.int vn), .val (.int pp), .val (.int gg), .val (.int cc), .val (.int e2), .val (.int ln), .val (.long (vx &&& (own_mask pp))), .second, .val (.long (vy &&& (own_mask cc))), .second, .val (.long hi_), .second, .val (.long lo_), .second, .val (.ref b9), .val (.ref vb10)] [(.int (own_at vb10 ln hi_ lo_ (0 : Int32) (own_digs vy nc (own_digs vx na (List.replicate ((na + nb + nc + 7) / 8) (0 : Int32)) 0) ((0 + na) + nb))))])) _
    refine XS.ifNo X21.here hx rfl (hb hby at_160) rfl ((if0 _ _).trans (feq ((by rw [own_final hna hnb hnc hln he2n ena enc hhi_ hlo_ _ (by decide)]; decide) : ¬ ((own_at vb10 ln hi_ lo_ (0 : Int32) (own_digs vy nc (own_digs vx na (List.replicate ((na + nb + nc + 7) / 8) (0 : Int32)) 0) ((0 + na) + nb))) = (0 : Int32)))).1) ?_
    show Steps p.tables e below (T21.setTop (mkF m 163 #[.val (.long vx), .second, .val (.int vp), .val (.int vg), .val (.long vy), .second, .val (.int vn), .val (.int pp), .val (.int gg), .val (.int cc), .val (.int e2), .val (.int ln), .val (.long (vx &&& (own_mask pp))), .second, .val (.long (vy &&& (own_mask cc))), .second, .val (.long hi_), .second, .val (.long lo_), .second, .val (.ref b9), .val (.ref vb10)] [])) _
    refine XS.aload X21.here hx rfl (hb hby at_163) rfl rfl ?_
    show Steps p.tables e below (T21.setTop (mkF m 165 #[.val (.long vx), .second, .val (.int vp), .val (.int vg), .val (.long vy), .second, .val (.int vn), .val (.int pp), .val (.int gg), .val (.int cc), .val (.int e2), .val (.int ln), .val (.long (vx &&& (own_mask pp))), .second, .val (.long (vy &&& (own_mask cc))), .second, .val (.long hi_), .second, .val (.long lo_), .second, .val (.ref b9), .val (.ref vb10)] [(.ref vb10)])) _
    refine XS.iload X21.here hx rfl (hb hby at_165) rfl ?_
    show Steps p.tables e below (T21.setTop (mkF m 167 #[.val (.long vx), .second, .val (.int vp), .val (.int vg), .val (.long vy), .second, .val (.int vn), .val (.int pp), .val (.int gg), .val (.int cc), .val (.int e2), .val (.int ln), .val (.long (vx &&& (own_mask pp))), .second, .val (.long (vy &&& (own_mask cc))), .second, .val (.long hi_), .second, .val (.long lo_), .second, .val (.ref b9), .val (.ref vb10)] [(.int ln), (.ref vb10)])) _
    refine XS.lload X21.here hx rfl (hb hby at_167) rfl ?_
    show Steps p.tables e below (T21.setTop (mkF m 169 #[.val (.long vx), .second, .val (.int vp), .val (.int vg), .val (.long vy), .second, .val (.int vn), .val (.int pp), .val (.int gg), .val (.int cc), .val (.int e2), .val (.int ln), .val (.long (vx &&& (own_mask pp))), .second, .val (.long (vy &&& (own_mask cc))), .second, .val (.long hi_), .second, .val (.long lo_), .second, .val (.ref b9), .val (.ref vb10)] [(.long hi_), (.int ln), (.ref vb10)])) _
    refine XS.lload X21.here hx rfl (hb hby at_169) rfl ?_
    show Steps p.tables e below (T21.setTop (mkF m 171 #[.val (.long vx), .second, .val (.int vp), .val (.int vg), .val (.long vy), .second, .val (.int vn), .val (.int pp), .val (.int gg), .val (.int cc), .val (.int e2), .val (.int ln), .val (.long (vx &&& (own_mask pp))), .second, .val (.long (vy &&& (own_mask cc))), .second, .val (.long hi_), .second, .val (.long lo_), .second, .val (.ref b9), .val (.ref vb10)] [(.long lo_), (.long hi_), (.int ln), (.ref vb10)])) _
    refine XS.iconst X21.here hx rfl (hb hby at_171) ?_
    show Steps p.tables e below (T21.setTop (mkF m 172 #[.val (.long vx), .second, .val (.int vp), .val (.int vg), .val (.long vy), .second, .val (.int vn), .val (.int pp), .val (.int gg), .val (.int cc), .val (.int e2), .val (.int ln), .val (.long (vx &&& (own_mask pp))), .second, .val (.long (vy &&& (own_mask cc))), .second, .val (.long hi_), .second, .val (.long lo_), .second, .val (.ref b9), .val (.ref vb10)] [(.int (1 : Int32)), (.long lo_), (.long hi_), (.int ln), (.ref vb10)])) _
    refine st22 _ ?_
    show Steps p.tables e below (T22.setTop (mkF m 175 #[.val (.long vx), .second, .val (.int vp), .val (.int vg), .val (.long vy), .second, .val (.int vn), .val (.int pp), .val (.int gg), .val (.int cc), .val (.int e2), .val (.int ln), .val (.long (vx &&& (own_mask pp))), .second, .val (.long (vy &&& (own_mask cc))), .second, .val (.long hi_), .second, .val (.long lo_), .second, .val (.ref b9), .val (.ref vb10)] [(.int (own_at vb10 ln hi_ lo_ (1 : Int32) (own_digs vy nc (own_digs vx na (List.replicate ((na + nb + nc + 7) / 8) (0 : Int32)) 0) ((0 + na) + nb))))])) _
    refine XS.ifNo X22.here hx rfl (hb hby at_175) rfl ((if0 _ _).trans (feq ((by rw [own_final hna hnb hnc hln he2n ena enc hhi_ hlo_ _ (by decide)]; decide) : ¬ ((own_at vb10 ln hi_ lo_ (1 : Int32) (own_digs vy nc (own_digs vx na (List.replicate ((na + nb + nc + 7) / 8) (0 : Int32)) 0) ((0 + na) + nb))) = (0 : Int32)))).1) ?_
    show Steps p.tables e below (T22.setTop (mkF m 178 #[.val (.long vx), .second, .val (.int vp), .val (.int vg), .val (.long vy), .second, .val (.int vn), .val (.int pp), .val (.int gg), .val (.int cc), .val (.int e2), .val (.int ln), .val (.long (vx &&& (own_mask pp))), .second, .val (.long (vy &&& (own_mask cc))), .second, .val (.long hi_), .second, .val (.long lo_), .second, .val (.ref b9), .val (.ref vb10)] [])) _
    refine XS.aload X22.here hx rfl (hb hby at_178) rfl rfl ?_
    show Steps p.tables e below (T22.setTop (mkF m 180 #[.val (.long vx), .second, .val (.int vp), .val (.int vg), .val (.long vy), .second, .val (.int vn), .val (.int pp), .val (.int gg), .val (.int cc), .val (.int e2), .val (.int ln), .val (.long (vx &&& (own_mask pp))), .second, .val (.long (vy &&& (own_mask cc))), .second, .val (.long hi_), .second, .val (.long lo_), .second, .val (.ref b9), .val (.ref vb10)] [(.ref vb10)])) _
    refine XS.iload X22.here hx rfl (hb hby at_180) rfl ?_
    show Steps p.tables e below (T22.setTop (mkF m 182 #[.val (.long vx), .second, .val (.int vp), .val (.int vg), .val (.long vy), .second, .val (.int vn), .val (.int pp), .val (.int gg), .val (.int cc), .val (.int e2), .val (.int ln), .val (.long (vx &&& (own_mask pp))), .second, .val (.long (vy &&& (own_mask cc))), .second, .val (.long hi_), .second, .val (.long lo_), .second, .val (.ref b9), .val (.ref vb10)] [(.int ln), (.ref vb10)])) _
    refine XS.lload X22.here hx rfl (hb hby at_182) rfl ?_
    show Steps p.tables e below (T22.setTop (mkF m 184 #[.val (.long vx), .second, .val (.int vp), .val (.int vg), .val (.long vy), .second, .val (.int vn), .val (.int pp), .val (.int gg), .val (.int cc), .val (.int e2), .val (.int ln), .val (.long (vx &&& (own_mask pp))), .second, .val (.long (vy &&& (own_mask cc))), .second, .val (.long hi_), .second, .val (.long lo_), .second, .val (.ref b9), .val (.ref vb10)] [(.long hi_), (.int ln), (.ref vb10)])) _
    refine XS.lload X22.here hx rfl (hb hby at_184) rfl ?_
    show Steps p.tables e below (T22.setTop (mkF m 186 #[.val (.long vx), .second, .val (.int vp), .val (.int vg), .val (.long vy), .second, .val (.int vn), .val (.int pp), .val (.int gg), .val (.int cc), .val (.int e2), .val (.int ln), .val (.long (vx &&& (own_mask pp))), .second, .val (.long (vy &&& (own_mask cc))), .second, .val (.long hi_), .second, .val (.long lo_), .second, .val (.ref b9), .val (.ref vb10)] [(.long lo_), (.long hi_), (.int ln), (.ref vb10)])) _
    refine XS.iconst X22.here hx rfl (hb hby at_186) ?_
    show Steps p.tables e below (T22.setTop (mkF m 187 #[.val (.long vx), .second, .val (.int vp), .val (.int vg), .val (.long vy), .second, .val (.int vn), .val (.int pp), .val (.int gg), .val (.int cc), .val (.int e2), .val (.int ln), .val (.long (vx &&& (own_mask pp))), .second, .val (.long (vy &&& (own_mask cc))), .second, .val (.long hi_), .second, .val (.long lo_), .second, .val (.ref b9), .val (.ref vb10)] [(.int (2 : Int32)), (.long lo_), (.long hi_), (.int ln), (.ref vb10)])) _
    refine st23 _ ?_
    show Steps p.tables e below (T23.setTop (mkF m 190 #[.val (.long vx), .second, .val (.int vp), .val (.int vg), .val (.long vy), .second, .val (.int vn), .val (.int pp), .val (.int gg), .val (.int cc), .val (.int e2), .val (.int ln), .val (.long (vx &&& (own_mask pp))), .second, .val (.long (vy &&& (own_mask cc))), .second, .val (.long hi_), .second, .val (.long lo_), .second, .val (.ref b9), .val (.ref vb10)] [(.int (own_at vb10 ln hi_ lo_ (2 : Int32) (own_digs vy nc (own_digs vx na (List.replicate ((na + nb + nc + 7) / 8) (0 : Int32)) 0) ((0 + na) + nb))))])) _
    refine XS.ifNo X23.here hx rfl (hb hby at_190) rfl ((if0 _ _).trans (feq ((by rw [own_final hna hnb hnc hln he2n ena enc hhi_ hlo_ _ (by decide)]; decide) : ¬ ((own_at vb10 ln hi_ lo_ (2 : Int32) (own_digs vy nc (own_digs vx na (List.replicate ((na + nb + nc + 7) / 8) (0 : Int32)) 0) ((0 + na) + nb))) = (0 : Int32)))).1) ?_
    show Steps p.tables e below (T23.setTop (mkF m 193 #[.val (.long vx), .second, .val (.int vp), .val (.int vg), .val (.long vy), .second, .val (.int vn), .val (.int pp), .val (.int gg), .val (.int cc), .val (.int e2), .val (.int ln), .val (.long (vx &&& (own_mask pp))), .second, .val (.long (vy &&& (own_mask cc))), .second, .val (.long hi_), .second, .val (.long lo_), .second, .val (.ref b9), .val (.ref vb10)] [])) _
    refine XS.aload X23.here hx rfl (hb hby at_193) rfl rfl ?_
    show Steps p.tables e below (T23.setTop (mkF m 195 #[.val (.long vx), .second, .val (.int vp), .val (.int vg), .val (.long vy), .second, .val (.int vn), .val (.int pp), .val (.int gg), .val (.int cc), .val (.int e2), .val (.int ln), .val (.long (vx &&& (own_mask pp))), .second, .val (.long (vy &&& (own_mask cc))), .second, .val (.long hi_), .second, .val (.long lo_), .second, .val (.ref b9), .val (.ref vb10)] [(.ref vb10)])) _
    refine XS.iload X23.here hx rfl (hb hby at_195) rfl ?_
    show Steps p.tables e below (T23.setTop (mkF m 197 #[.val (.long vx), .second, .val (.int vp), .val (.int vg), .val (.long vy), .second, .val (.int vn), .val (.int pp), .val (.int gg), .val (.int cc), .val (.int e2), .val (.int ln), .val (.long (vx &&& (own_mask pp))), .second, .val (.long (vy &&& (own_mask cc))), .second, .val (.long hi_), .second, .val (.long lo_), .second, .val (.ref b9), .val (.ref vb10)] [(.int ln), (.ref vb10)])) _
    refine XS.lload X23.here hx rfl (hb hby at_197) rfl ?_
    show Steps p.tables e below (T23.setTop (mkF m 199 #[.val (.long vx), .second, .val (.int vp), .val (.int vg), .val (.long vy), .second, .val (.int vn), .val (.int pp), .val (.int gg), .val (.int cc), .val (.int e2), .val (.int ln), .val (.long (vx &&& (own_mask pp))), .second, .val (.long (vy &&& (own_mask cc))), .second, .val (.long hi_), .second, .val (.long lo_), .second, .val (.ref b9), .val (.ref vb10)] [(.long hi_), (.int ln), (.ref vb10)])) _
    refine XS.lload X23.here hx rfl (hb hby at_199) rfl ?_
    show Steps p.tables e below (T23.setTop (mkF m 201 #[.val (.long vx), .second, .val (.int vp), .val (.int vg), .val (.long vy), .second, .val (.int vn), .val (.int pp), .val (.int gg), .val (.int cc), .val (.int e2), .val (.int ln), .val (.long (vx &&& (own_mask pp))), .second, .val (.long (vy &&& (own_mask cc))), .second, .val (.long hi_), .second, .val (.long lo_), .second, .val (.ref b9), .val (.ref vb10)] [(.long lo_), (.long hi_), (.int ln), (.ref vb10)])) _
    refine XS.iconst X23.here hx rfl (hb hby at_201) ?_
    show Steps p.tables e below (T23.setTop (mkF m 202 #[.val (.long vx), .second, .val (.int vp), .val (.int vg), .val (.long vy), .second, .val (.int vn), .val (.int pp), .val (.int gg), .val (.int cc), .val (.int e2), .val (.int ln), .val (.long (vx &&& (own_mask pp))), .second, .val (.long (vy &&& (own_mask cc))), .second, .val (.long hi_), .second, .val (.long lo_), .second, .val (.ref b9), .val (.ref vb10)] [(.int (3 : Int32)), (.long lo_), (.long hi_), (.int ln), (.ref vb10)])) _
    refine st24 _ ?_
    show Steps p.tables e below (T24.setTop (mkF m 205 #[.val (.long vx), .second, .val (.int vp), .val (.int vg), .val (.long vy), .second, .val (.int vn), .val (.int pp), .val (.int gg), .val (.int cc), .val (.int e2), .val (.int ln), .val (.long (vx &&& (own_mask pp))), .second, .val (.long (vy &&& (own_mask cc))), .second, .val (.long hi_), .second, .val (.long lo_), .second, .val (.ref b9), .val (.ref vb10)] [(.int (own_at vb10 ln hi_ lo_ (3 : Int32) (own_digs vy nc (own_digs vx na (List.replicate ((na + nb + nc + 7) / 8) (0 : Int32)) 0) ((0 + na) + nb))))])) _
    refine XS.ifNo X24.here hx rfl (hb hby at_205) rfl ((if0 _ _).trans (feq ((by rw [own_final hna hnb hnc hln he2n ena enc hhi_ hlo_ _ (by decide)]; decide) : ¬ ((own_at vb10 ln hi_ lo_ (3 : Int32) (own_digs vy nc (own_digs vx na (List.replicate ((na + nb + nc + 7) / 8) (0 : Int32)) 0) ((0 + na) + nb))) = (0 : Int32)))).1) ?_
    show Steps p.tables e below (T24.setTop (mkF m 208 #[.val (.long vx), .second, .val (.int vp), .val (.int vg), .val (.long vy), .second, .val (.int vn), .val (.int pp), .val (.int gg), .val (.int cc), .val (.int e2), .val (.int ln), .val (.long (vx &&& (own_mask pp))), .second, .val (.long (vy &&& (own_mask cc))), .second, .val (.long hi_), .second, .val (.long lo_), .second, .val (.ref b9), .val (.ref vb10)] [])) _
    refine XS.aload X24.here hx rfl (hb hby at_208) rfl rfl ?_
    show Steps p.tables e below (T24.setTop (mkF m 210 #[.val (.long vx), .second, .val (.int vp), .val (.int vg), .val (.long vy), .second, .val (.int vn), .val (.int pp), .val (.int gg), .val (.int cc), .val (.int e2), .val (.int ln), .val (.long (vx &&& (own_mask pp))), .second, .val (.long (vy &&& (own_mask cc))), .second, .val (.long hi_), .second, .val (.long lo_), .second, .val (.ref b9), .val (.ref vb10)] [(.ref vb10)])) _
    refine XS.iload X24.here hx rfl (hb hby at_210) rfl ?_
    show Steps p.tables e below (T24.setTop (mkF m 212 #[.val (.long vx), .second, .val (.int vp), .val (.int vg), .val (.long vy), .second, .val (.int vn), .val (.int pp), .val (.int gg), .val (.int cc), .val (.int e2), .val (.int ln), .val (.long (vx &&& (own_mask pp))), .second, .val (.long (vy &&& (own_mask cc))), .second, .val (.long hi_), .second, .val (.long lo_), .second, .val (.ref b9), .val (.ref vb10)] [(.int ln), (.ref vb10)])) _
    refine XS.lload X24.here hx rfl (hb hby at_212) rfl ?_
    show Steps p.tables e below (T24.setTop (mkF m 214 #[.val (.long vx), .second, .val (.int vp), .val (.int vg), .val (.long vy), .second, .val (.int vn), .val (.int pp), .val (.int gg), .val (.int cc), .val (.int e2), .val (.int ln), .val (.long (vx &&& (own_mask pp))), .second, .val (.long (vy &&& (own_mask cc))), .second, .val (.long hi_), .second, .val (.long lo_), .second, .val (.ref b9), .val (.ref vb10)] [(.long hi_), (.int ln), (.ref vb10)])) _
    refine XS.lload X24.here hx rfl (hb hby at_214) rfl ?_
    show Steps p.tables e below (T24.setTop (mkF m 216 #[.val (.long vx), .second, .val (.int vp), .val (.int vg), .val (.long vy), .second, .val (.int vn), .val (.int pp), .val (.int gg), .val (.int cc), .val (.int e2), .val (.int ln), .val (.long (vx &&& (own_mask pp))), .second, .val (.long (vy &&& (own_mask cc))), .second, .val (.long hi_), .second, .val (.long lo_), .second, .val (.ref b9), .val (.ref vb10)] [(.long lo_), (.long hi_), (.int ln), (.ref vb10)])) _
    refine XS.iconst X24.here hx rfl (hb hby at_216) ?_
    show Steps p.tables e below (T24.setTop (mkF m 217 #[.val (.long vx), .second, .val (.int vp), .val (.int vg), .val (.long vy), .second, .val (.int vn), .val (.int pp), .val (.int gg), .val (.int cc), .val (.int e2), .val (.int ln), .val (.long (vx &&& (own_mask pp))), .second, .val (.long (vy &&& (own_mask cc))), .second, .val (.long hi_), .second, .val (.long lo_), .second, .val (.ref b9), .val (.ref vb10)] [(.int (4 : Int32)), (.long lo_), (.long hi_), (.int ln), (.ref vb10)])) _
    refine st25 _ ?_
    show Steps p.tables e below (T25.setTop (mkF m 220 #[.val (.long vx), .second, .val (.int vp), .val (.int vg), .val (.long vy), .second, .val (.int vn), .val (.int pp), .val (.int gg), .val (.int cc), .val (.int e2), .val (.int ln), .val (.long (vx &&& (own_mask pp))), .second, .val (.long (vy &&& (own_mask cc))), .second, .val (.long hi_), .second, .val (.long lo_), .second, .val (.ref b9), .val (.ref vb10)] [(.int (own_at vb10 ln hi_ lo_ (4 : Int32) (own_digs vy nc (own_digs vx na (List.replicate ((na + nb + nc + 7) / 8) (0 : Int32)) 0) ((0 + na) + nb))))])) _
    refine XS.ifNo X25.here hx rfl (hb hby at_220) rfl ((if0 _ _).trans (feq ((by rw [own_final hna hnb hnc hln he2n ena enc hhi_ hlo_ _ (by decide)]; decide) : ¬ ((own_at vb10 ln hi_ lo_ (4 : Int32) (own_digs vy nc (own_digs vx na (List.replicate ((na + nb + nc + 7) / 8) (0 : Int32)) 0) ((0 + na) + nb))) = (0 : Int32)))).1) ?_
    show Steps p.tables e below (T25.setTop (mkF m 223 #[.val (.long vx), .second, .val (.int vp), .val (.int vg), .val (.long vy), .second, .val (.int vn), .val (.int pp), .val (.int gg), .val (.int cc), .val (.int e2), .val (.int ln), .val (.long (vx &&& (own_mask pp))), .second, .val (.long (vy &&& (own_mask cc))), .second, .val (.long hi_), .second, .val (.long lo_), .second, .val (.ref b9), .val (.ref vb10)] [])) _
    refine XS.aload X25.here hx rfl (hb hby at_223) rfl rfl ?_
    show Steps p.tables e below (T25.setTop (mkF m 225 #[.val (.long vx), .second, .val (.int vp), .val (.int vg), .val (.long vy), .second, .val (.int vn), .val (.int pp), .val (.int gg), .val (.int cc), .val (.int e2), .val (.int ln), .val (.long (vx &&& (own_mask pp))), .second, .val (.long (vy &&& (own_mask cc))), .second, .val (.long hi_), .second, .val (.long lo_), .second, .val (.ref b9), .val (.ref vb10)] [(.ref vb10)])) _
    refine XS.iload X25.here hx rfl (hb hby at_225) rfl ?_
    show Steps p.tables e below (T25.setTop (mkF m 227 #[.val (.long vx), .second, .val (.int vp), .val (.int vg), .val (.long vy), .second, .val (.int vn), .val (.int pp), .val (.int gg), .val (.int cc), .val (.int e2), .val (.int ln), .val (.long (vx &&& (own_mask pp))), .second, .val (.long (vy &&& (own_mask cc))), .second, .val (.long hi_), .second, .val (.long lo_), .second, .val (.ref b9), .val (.ref vb10)] [(.int ln), (.ref vb10)])) _
    refine XS.lload X25.here hx rfl (hb hby at_227) rfl ?_
    show Steps p.tables e below (T25.setTop (mkF m 229 #[.val (.long vx), .second, .val (.int vp), .val (.int vg), .val (.long vy), .second, .val (.int vn), .val (.int pp), .val (.int gg), .val (.int cc), .val (.int e2), .val (.int ln), .val (.long (vx &&& (own_mask pp))), .second, .val (.long (vy &&& (own_mask cc))), .second, .val (.long hi_), .second, .val (.long lo_), .second, .val (.ref b9), .val (.ref vb10)] [(.long hi_), (.int ln), (.ref vb10)])) _
    refine XS.lload X25.here hx rfl (hb hby at_229) rfl ?_
    show Steps p.tables e below (T25.setTop (mkF m 231 #[.val (.long vx), .second, .val (.int vp), .val (.int vg), .val (.long vy), .second, .val (.int vn), .val (.int pp), .val (.int gg), .val (.int cc), .val (.int e2), .val (.int ln), .val (.long (vx &&& (own_mask pp))), .second, .val (.long (vy &&& (own_mask cc))), .second, .val (.long hi_), .second, .val (.long lo_), .second, .val (.ref b9), .val (.ref vb10)] [(.long lo_), (.long hi_), (.int ln), (.ref vb10)])) _
    refine XS.iconst X25.here hx rfl (hb hby at_231) ?_
    show Steps p.tables e below (T25.setTop (mkF m 232 #[.val (.long vx), .second, .val (.int vp), .val (.int vg), .val (.long vy), .second, .val (.int vn), .val (.int pp), .val (.int gg), .val (.int cc), .val (.int e2), .val (.int ln), .val (.long (vx &&& (own_mask pp))), .second, .val (.long (vy &&& (own_mask cc))), .second, .val (.long hi_), .second, .val (.long lo_), .second, .val (.ref b9), .val (.ref vb10)] [(.int (5 : Int32)), (.long lo_), (.long hi_), (.int ln), (.ref vb10)])) _
    refine st26 _ ?_
    show Steps p.tables e below (T26.setTop (mkF m 235 #[.val (.long vx), .second, .val (.int vp), .val (.int vg), .val (.long vy), .second, .val (.int vn), .val (.int pp), .val (.int gg), .val (.int cc), .val (.int e2), .val (.int ln), .val (.long (vx &&& (own_mask pp))), .second, .val (.long (vy &&& (own_mask cc))), .second, .val (.long hi_), .second, .val (.long lo_), .second, .val (.ref b9), .val (.ref vb10)] [(.int (own_at vb10 ln hi_ lo_ (5 : Int32) (own_digs vy nc (own_digs vx na (List.replicate ((na + nb + nc + 7) / 8) (0 : Int32)) 0) ((0 + na) + nb))))])) _
    refine XS.ifNo X26.here hx rfl (hb hby at_235) rfl ((if0 _ _).trans (feq ((by rw [own_final hna hnb hnc hln he2n ena enc hhi_ hlo_ _ (by decide)]; decide) : ¬ ((own_at vb10 ln hi_ lo_ (5 : Int32) (own_digs vy nc (own_digs vx na (List.replicate ((na + nb + nc + 7) / 8) (0 : Int32)) 0) ((0 + na) + nb))) = (0 : Int32)))).1) ?_
    show Steps p.tables e below (T26.setTop (mkF m 238 #[.val (.long vx), .second, .val (.int vp), .val (.int vg), .val (.long vy), .second, .val (.int vn), .val (.int pp), .val (.int gg), .val (.int cc), .val (.int e2), .val (.int ln), .val (.long (vx &&& (own_mask pp))), .second, .val (.long (vy &&& (own_mask cc))), .second, .val (.long hi_), .second, .val (.long lo_), .second, .val (.ref b9), .val (.ref vb10)] [])) _
    refine XS.aload X26.here hx rfl (hb hby at_238) rfl rfl ?_
    show Steps p.tables e below (T26.setTop (mkF m 240 #[.val (.long vx), .second, .val (.int vp), .val (.int vg), .val (.long vy), .second, .val (.int vn), .val (.int pp), .val (.int gg), .val (.int cc), .val (.int e2), .val (.int ln), .val (.long (vx &&& (own_mask pp))), .second, .val (.long (vy &&& (own_mask cc))), .second, .val (.long hi_), .second, .val (.long lo_), .second, .val (.ref b9), .val (.ref vb10)] [(.ref vb10)])) _
    refine XS.iload X26.here hx rfl (hb hby at_240) rfl ?_
    show Steps p.tables e below (T26.setTop (mkF m 242 #[.val (.long vx), .second, .val (.int vp), .val (.int vg), .val (.long vy), .second, .val (.int vn), .val (.int pp), .val (.int gg), .val (.int cc), .val (.int e2), .val (.int ln), .val (.long (vx &&& (own_mask pp))), .second, .val (.long (vy &&& (own_mask cc))), .second, .val (.long hi_), .second, .val (.long lo_), .second, .val (.ref b9), .val (.ref vb10)] [(.int ln), (.ref vb10)])) _
    refine XS.lload X26.here hx rfl (hb hby at_242) rfl ?_
    show Steps p.tables e below (T26.setTop (mkF m 244 #[.val (.long vx), .second, .val (.int vp), .val (.int vg), .val (.long vy), .second, .val (.int vn), .val (.int pp), .val (.int gg), .val (.int cc), .val (.int e2), .val (.int ln), .val (.long (vx &&& (own_mask pp))), .second, .val (.long (vy &&& (own_mask cc))), .second, .val (.long hi_), .second, .val (.long lo_), .second, .val (.ref b9), .val (.ref vb10)] [(.long hi_), (.int ln), (.ref vb10)])) _
    refine XS.lload X26.here hx rfl (hb hby at_244) rfl ?_
    show Steps p.tables e below (T26.setTop (mkF m 246 #[.val (.long vx), .second, .val (.int vp), .val (.int vg), .val (.long vy), .second, .val (.int vn), .val (.int pp), .val (.int gg), .val (.int cc), .val (.int e2), .val (.int ln), .val (.long (vx &&& (own_mask pp))), .second, .val (.long (vy &&& (own_mask cc))), .second, .val (.long hi_), .second, .val (.long lo_), .second, .val (.ref b9), .val (.ref vb10)] [(.long lo_), (.long hi_), (.int ln), (.ref vb10)])) _
    refine XS.bipush X26.here hx rfl (hb hby at_246) ?_
    show Steps p.tables e below (T26.setTop (mkF m 248 #[.val (.long vx), .second, .val (.int vp), .val (.int vg), .val (.long vy), .second, .val (.int vn), .val (.int pp), .val (.int gg), .val (.int cc), .val (.int e2), .val (.int ln), .val (.long (vx &&& (own_mask pp))), .second, .val (.long (vy &&& (own_mask cc))), .second, .val (.long hi_), .second, .val (.long lo_), .second, .val (.ref b9), .val (.ref vb10)] [(.int (6 : Int32)), (.long lo_), (.long hi_), (.int ln), (.ref vb10)])) _
    refine st27 _ ?_
    show Steps p.tables e below (T27.setTop (mkF m 251 #[.val (.long vx), .second, .val (.int vp), .val (.int vg), .val (.long vy), .second, .val (.int vn), .val (.int pp), .val (.int gg), .val (.int cc), .val (.int e2), .val (.int ln), .val (.long (vx &&& (own_mask pp))), .second, .val (.long (vy &&& (own_mask cc))), .second, .val (.long hi_), .second, .val (.long lo_), .second, .val (.ref b9), .val (.ref vb10)] [(.int (own_at vb10 ln hi_ lo_ (6 : Int32) (own_digs vy nc (own_digs vx na (List.replicate ((na + nb + nc + 7) / 8) (0 : Int32)) 0) ((0 + na) + nb))))])) _
    refine XS.ifNo X27.here hx rfl (hb hby at_251) rfl ((if0 _ _).trans (feq ((by rw [own_final hna hnb hnc hln he2n ena enc hhi_ hlo_ _ (by decide)]; decide) : ¬ ((own_at vb10 ln hi_ lo_ (6 : Int32) (own_digs vy nc (own_digs vx na (List.replicate ((na + nb + nc + 7) / 8) (0 : Int32)) 0) ((0 + na) + nb))) = (0 : Int32)))).1) ?_
    show Steps p.tables e below (T27.setTop (mkF m 254 #[.val (.long vx), .second, .val (.int vp), .val (.int vg), .val (.long vy), .second, .val (.int vn), .val (.int pp), .val (.int gg), .val (.int cc), .val (.int e2), .val (.int ln), .val (.long (vx &&& (own_mask pp))), .second, .val (.long (vy &&& (own_mask cc))), .second, .val (.long hi_), .second, .val (.long lo_), .second, .val (.ref b9), .val (.ref vb10)] [])) _
    refine XS.aload X27.here hx rfl (hb hby at_254) rfl rfl ?_
    show Steps p.tables e below (T27.setTop (mkF m 256 #[.val (.long vx), .second, .val (.int vp), .val (.int vg), .val (.long vy), .second, .val (.int vn), .val (.int pp), .val (.int gg), .val (.int cc), .val (.int e2), .val (.int ln), .val (.long (vx &&& (own_mask pp))), .second, .val (.long (vy &&& (own_mask cc))), .second, .val (.long hi_), .second, .val (.long lo_), .second, .val (.ref b9), .val (.ref vb10)] [(.ref vb10)])) _
    refine XS.iload X27.here hx rfl (hb hby at_256) rfl ?_
    show Steps p.tables e below (T27.setTop (mkF m 258 #[.val (.long vx), .second, .val (.int vp), .val (.int vg), .val (.long vy), .second, .val (.int vn), .val (.int pp), .val (.int gg), .val (.int cc), .val (.int e2), .val (.int ln), .val (.long (vx &&& (own_mask pp))), .second, .val (.long (vy &&& (own_mask cc))), .second, .val (.long hi_), .second, .val (.long lo_), .second, .val (.ref b9), .val (.ref vb10)] [(.int ln), (.ref vb10)])) _
    refine XS.lload X27.here hx rfl (hb hby at_258) rfl ?_
    show Steps p.tables e below (T27.setTop (mkF m 260 #[.val (.long vx), .second, .val (.int vp), .val (.int vg), .val (.long vy), .second, .val (.int vn), .val (.int pp), .val (.int gg), .val (.int cc), .val (.int e2), .val (.int ln), .val (.long (vx &&& (own_mask pp))), .second, .val (.long (vy &&& (own_mask cc))), .second, .val (.long hi_), .second, .val (.long lo_), .second, .val (.ref b9), .val (.ref vb10)] [(.long hi_), (.int ln), (.ref vb10)])) _
    refine XS.lload X27.here hx rfl (hb hby at_260) rfl ?_
    show Steps p.tables e below (T27.setTop (mkF m 262 #[.val (.long vx), .second, .val (.int vp), .val (.int vg), .val (.long vy), .second, .val (.int vn), .val (.int pp), .val (.int gg), .val (.int cc), .val (.int e2), .val (.int ln), .val (.long (vx &&& (own_mask pp))), .second, .val (.long (vy &&& (own_mask cc))), .second, .val (.long hi_), .second, .val (.long lo_), .second, .val (.ref b9), .val (.ref vb10)] [(.long lo_), (.long hi_), (.int ln), (.ref vb10)])) _
    refine XS.bipush X27.here hx rfl (hb hby at_262) ?_
    show Steps p.tables e below (T27.setTop (mkF m 264 #[.val (.long vx), .second, .val (.int vp), .val (.int vg), .val (.long vy), .second, .val (.int vn), .val (.int pp), .val (.int gg), .val (.int cc), .val (.int e2), .val (.int ln), .val (.long (vx &&& (own_mask pp))), .second, .val (.long (vy &&& (own_mask cc))), .second, .val (.long hi_), .second, .val (.long lo_), .second, .val (.ref b9), .val (.ref vb10)] [(.int (7 : Int32)), (.long lo_), (.long hi_), (.int ln), (.ref vb10)])) _
    refine st28 _ ?_
    show Steps p.tables e below (T28.setTop (mkF m 267 #[.val (.long vx), .second, .val (.int vp), .val (.int vg), .val (.long vy), .second, .val (.int vn), .val (.int pp), .val (.int gg), .val (.int cc), .val (.int e2), .val (.int ln), .val (.long (vx &&& (own_mask pp))), .second, .val (.long (vy &&& (own_mask cc))), .second, .val (.long hi_), .second, .val (.long lo_), .second, .val (.ref b9), .val (.ref vb10)] [(.int (own_at vb10 ln hi_ lo_ (7 : Int32) (own_digs vy nc (own_digs vx na (List.replicate ((na + nb + nc + 7) / 8) (0 : Int32)) 0) ((0 + na) + nb))))])) _
    refine XS.ifNo X28.here hx rfl (hb hby at_267) rfl ((if0 _ _).trans (feq ((by rw [own_final hna hnb hnc hln he2n ena enc hhi_ hlo_ _ (by decide)]; decide) : ¬ ((own_at vb10 ln hi_ lo_ (7 : Int32) (own_digs vy nc (own_digs vx na (List.replicate ((na + nb + nc + 7) / 8) (0 : Int32)) 0) ((0 + na) + nb))) = (0 : Int32)))).1) ?_
    show Steps p.tables e below (T28.setTop (mkF m 270 #[.val (.long vx), .second, .val (.int vp), .val (.int vg), .val (.long vy), .second, .val (.int vn), .val (.int pp), .val (.int gg), .val (.int cc), .val (.int e2), .val (.int ln), .val (.long (vx &&& (own_mask pp))), .second, .val (.long (vy &&& (own_mask cc))), .second, .val (.long hi_), .second, .val (.long lo_), .second, .val (.ref b9), .val (.ref vb10)] [])) _
    refine XS.aload X28.here hx rfl (hb hby at_270) rfl rfl ?_
    show Steps p.tables e below (T28.setTop (mkF m 272 #[.val (.long vx), .second, .val (.int vp), .val (.int vg), .val (.long vy), .second, .val (.int vn), .val (.int pp), .val (.int gg), .val (.int cc), .val (.int e2), .val (.int ln), .val (.long (vx &&& (own_mask pp))), .second, .val (.long (vy &&& (own_mask cc))), .second, .val (.long hi_), .second, .val (.long lo_), .second, .val (.ref b9), .val (.ref vb10)] [(.ref vb10)])) _
    refine XS.iload X28.here hx rfl (hb hby at_272) rfl ?_
    show Steps p.tables e below (T28.setTop (mkF m 274 #[.val (.long vx), .second, .val (.int vp), .val (.int vg), .val (.long vy), .second, .val (.int vn), .val (.int pp), .val (.int gg), .val (.int cc), .val (.int e2), .val (.int ln), .val (.long (vx &&& (own_mask pp))), .second, .val (.long (vy &&& (own_mask cc))), .second, .val (.long hi_), .second, .val (.long lo_), .second, .val (.ref b9), .val (.ref vb10)] [(.int ln), (.ref vb10)])) _
    refine XS.lload X28.here hx rfl (hb hby at_274) rfl ?_
    show Steps p.tables e below (T28.setTop (mkF m 276 #[.val (.long vx), .second, .val (.int vp), .val (.int vg), .val (.long vy), .second, .val (.int vn), .val (.int pp), .val (.int gg), .val (.int cc), .val (.int e2), .val (.int ln), .val (.long (vx &&& (own_mask pp))), .second, .val (.long (vy &&& (own_mask cc))), .second, .val (.long hi_), .second, .val (.long lo_), .second, .val (.ref b9), .val (.ref vb10)] [(.long hi_), (.int ln), (.ref vb10)])) _
    refine XS.lload X28.here hx rfl (hb hby at_276) rfl ?_
    show Steps p.tables e below (T28.setTop (mkF m 278 #[.val (.long vx), .second, .val (.int vp), .val (.int vg), .val (.long vy), .second, .val (.int vn), .val (.int pp), .val (.int gg), .val (.int cc), .val (.int e2), .val (.int ln), .val (.long (vx &&& (own_mask pp))), .second, .val (.long (vy &&& (own_mask cc))), .second, .val (.long hi_), .second, .val (.long lo_), .second, .val (.ref b9), .val (.ref vb10)] [(.long lo_), (.long hi_), (.int ln), (.ref vb10)])) _
    refine XS.bipush X28.here hx rfl (hb hby at_278) ?_
    show Steps p.tables e below (T28.setTop (mkF m 280 #[.val (.long vx), .second, .val (.int vp), .val (.int vg), .val (.long vy), .second, .val (.int vn), .val (.int pp), .val (.int gg), .val (.int cc), .val (.int e2), .val (.int ln), .val (.long (vx &&& (own_mask pp))), .second, .val (.long (vy &&& (own_mask cc))), .second, .val (.long hi_), .second, .val (.long lo_), .second, .val (.ref b9), .val (.ref vb10)] [(.int (8 : Int32)), (.long lo_), (.long hi_), (.int ln), (.ref vb10)])) _
    refine st29 _ ?_
    show Steps p.tables e below (T29.setTop (mkF m 283 #[.val (.long vx), .second, .val (.int vp), .val (.int vg), .val (.long vy), .second, .val (.int vn), .val (.int pp), .val (.int gg), .val (.int cc), .val (.int e2), .val (.int ln), .val (.long (vx &&& (own_mask pp))), .second, .val (.long (vy &&& (own_mask cc))), .second, .val (.long hi_), .second, .val (.long lo_), .second, .val (.ref b9), .val (.ref vb10)] [(.int (own_at vb10 ln hi_ lo_ (8 : Int32) (own_digs vy nc (own_digs vx na (List.replicate ((na + nb + nc + 7) / 8) (0 : Int32)) 0) ((0 + na) + nb))))])) _
    refine XS.ifNo X29.here hx rfl (hb hby at_283) rfl ((if0 _ _).trans (feq ((by rw [own_final hna hnb hnc hln he2n ena enc hhi_ hlo_ _ (by decide)]; decide) : ¬ ((own_at vb10 ln hi_ lo_ (8 : Int32) (own_digs vy nc (own_digs vx na (List.replicate ((na + nb + nc + 7) / 8) (0 : Int32)) 0) ((0 + na) + nb))) = (0 : Int32)))).1) ?_
    show Steps p.tables e below (T29.setTop (mkF m 286 #[.val (.long vx), .second, .val (.int vp), .val (.int vg), .val (.long vy), .second, .val (.int vn), .val (.int pp), .val (.int gg), .val (.int cc), .val (.int e2), .val (.int ln), .val (.long (vx &&& (own_mask pp))), .second, .val (.long (vy &&& (own_mask cc))), .second, .val (.long hi_), .second, .val (.long lo_), .second, .val (.ref b9), .val (.ref vb10)] [])) _
    refine XS.aload X29.here hx rfl (hb hby at_286) rfl rfl ?_
    show Steps p.tables e below (T29.setTop (mkF m 288 #[.val (.long vx), .second, .val (.int vp), .val (.int vg), .val (.long vy), .second, .val (.int vn), .val (.int pp), .val (.int gg), .val (.int cc), .val (.int e2), .val (.int ln), .val (.long (vx &&& (own_mask pp))), .second, .val (.long (vy &&& (own_mask cc))), .second, .val (.long hi_), .second, .val (.long lo_), .second, .val (.ref b9), .val (.ref vb10)] [(.ref vb10)])) _
    refine XS.iload X29.here hx rfl (hb hby at_288) rfl ?_
    show Steps p.tables e below (T29.setTop (mkF m 290 #[.val (.long vx), .second, .val (.int vp), .val (.int vg), .val (.long vy), .second, .val (.int vn), .val (.int pp), .val (.int gg), .val (.int cc), .val (.int e2), .val (.int ln), .val (.long (vx &&& (own_mask pp))), .second, .val (.long (vy &&& (own_mask cc))), .second, .val (.long hi_), .second, .val (.long lo_), .second, .val (.ref b9), .val (.ref vb10)] [(.int ln), (.ref vb10)])) _
    refine XS.lload X29.here hx rfl (hb hby at_290) rfl ?_
    show Steps p.tables e below (T29.setTop (mkF m 292 #[.val (.long vx), .second, .val (.int vp), .val (.int vg), .val (.long vy), .second, .val (.int vn), .val (.int pp), .val (.int gg), .val (.int cc), .val (.int e2), .val (.int ln), .val (.long (vx &&& (own_mask pp))), .second, .val (.long (vy &&& (own_mask cc))), .second, .val (.long hi_), .second, .val (.long lo_), .second, .val (.ref b9), .val (.ref vb10)] [(.long hi_), (.int ln), (.ref vb10)])) _
    refine XS.lload X29.here hx rfl (hb hby at_292) rfl ?_
    show Steps p.tables e below (T29.setTop (mkF m 294 #[.val (.long vx), .second, .val (.int vp), .val (.int vg), .val (.long vy), .second, .val (.int vn), .val (.int pp), .val (.int gg), .val (.int cc), .val (.int e2), .val (.int ln), .val (.long (vx &&& (own_mask pp))), .second, .val (.long (vy &&& (own_mask cc))), .second, .val (.long hi_), .second, .val (.long lo_), .second, .val (.ref b9), .val (.ref vb10)] [(.long lo_), (.long hi_), (.int ln), (.ref vb10)])) _
    refine XS.bipush X29.here hx rfl (hb hby at_294) ?_
    show Steps p.tables e below (T29.setTop (mkF m 296 #[.val (.long vx), .second, .val (.int vp), .val (.int vg), .val (.long vy), .second, .val (.int vn), .val (.int pp), .val (.int gg), .val (.int cc), .val (.int e2), .val (.int ln), .val (.long (vx &&& (own_mask pp))), .second, .val (.long (vy &&& (own_mask cc))), .second, .val (.long hi_), .second, .val (.long lo_), .second, .val (.ref b9), .val (.ref vb10)] [(.int (9 : Int32)), (.long lo_), (.long hi_), (.int ln), (.ref vb10)])) _
    refine st30 _ ?_
    show Steps p.tables e below (T30.setTop (mkF m 299 #[.val (.long vx), .second, .val (.int vp), .val (.int vg), .val (.long vy), .second, .val (.int vn), .val (.int pp), .val (.int gg), .val (.int cc), .val (.int e2), .val (.int ln), .val (.long (vx &&& (own_mask pp))), .second, .val (.long (vy &&& (own_mask cc))), .second, .val (.long hi_), .second, .val (.long lo_), .second, .val (.ref b9), .val (.ref vb10)] [(.int (own_at vb10 ln hi_ lo_ (9 : Int32) (own_digs vy nc (own_digs vx na (List.replicate ((na + nb + nc + 7) / 8) (0 : Int32)) 0) ((0 + na) + nb))))])) _
    refine XS.ifNo X30.here hx rfl (hb hby at_299) rfl ((if0 _ _).trans (feq ((by rw [own_final hna hnb hnc hln he2n ena enc hhi_ hlo_ _ (by decide)]; decide) : ¬ ((own_at vb10 ln hi_ lo_ (9 : Int32) (own_digs vy nc (own_digs vx na (List.replicate ((na + nb + nc + 7) / 8) (0 : Int32)) 0) ((0 + na) + nb))) = (0 : Int32)))).1) ?_
    show Steps p.tables e below (T30.setTop (mkF m 302 #[.val (.long vx), .second, .val (.int vp), .val (.int vg), .val (.long vy), .second, .val (.int vn), .val (.int pp), .val (.int gg), .val (.int cc), .val (.int e2), .val (.int ln), .val (.long (vx &&& (own_mask pp))), .second, .val (.long (vy &&& (own_mask cc))), .second, .val (.long hi_), .second, .val (.long lo_), .second, .val (.ref b9), .val (.ref vb10)] [])) _
    refine XS.iconst X30.here hx rfl (hb hby at_302) ?_
    show Steps p.tables e below (T30.setTop (mkF m 303 #[.val (.long vx), .second, .val (.int vp), .val (.int vg), .val (.long vy), .second, .val (.int vn), .val (.int pp), .val (.int gg), .val (.int cc), .val (.int e2), .val (.int ln), .val (.long (vx &&& (own_mask pp))), .second, .val (.long (vy &&& (own_mask cc))), .second, .val (.long hi_), .second, .val (.long lo_), .second, .val (.ref b9), .val (.ref vb10)] [(.int (1 : Int32))])) _
    refine XS.goto X30.here hx rfl (pc0 := 303) (pc' := 307) rfl (hb hby at_303) (by decide) (by decide) ?_
    show Steps p.tables e below (T30.setTop (mkF m 307 #[.val (.long vx), .second, .val (.int vp), .val (.int vg), .val (.long vy), .second, .val (.int vn), .val (.int pp), .val (.int gg), .val (.int cc), .val (.int e2), .val (.int ln), .val (.long (vx &&& (own_mask pp))), .second, .val (.long (vy &&& (own_mask cc))), .second, .val (.long hi_), .second, .val (.long lo_), .second, .val (.ref b9), .val (.ref vb10)] [(.int (1 : Int32))])) _
    exact retN X30 hx (t := .boolean) Bd.returns (by simp) (hb hby at_307) hr
  ·
    show Q0 Z vx vp vg vy vn h0 n0 _ T30.heap _
    rw [e30q]
    exact ⟨rfl, N30⟩
set_option maxRecDepth 65536 in
set_option maxHeartbeats 40000000 in
theorem comes_1 {Post : Tables → Env → Array Value → State → Outcome → State → Prop} (hpost : ∀ tb e args s v u, (limb_1_1.after args s (.returned v) u = true ∧ limb_1_2.after args s (.returned v) u = true ∧ True) → FrameEnd s (.returned v) u (Jvm.fieldLocs frame_1_writes args s ++ Jvm.arrayLocs frame_1_arrays args s ++ Jvm.staticLocs frame_1_statics s) 16 128 → Post tb e args s (.returned v) u) :
    ArmFor flags0 classFile x code maxLocals ret World_1 tables_1 room_1 Calls_1 rest_1 Pre_1 Post := by
  intro l hfl _ _ p e ha hc hk s m args below hf hA hF happ hP
  obtain ⟨hcalls, hrest, hpre⟩ := hP
  obtain ⟨-, -, -, hnamed, -, -, -, hat⟩ := (Spec.applies_iff hf).mp happ
  obtain ⟨hg, hn⟩ := and_e (Cond.before_iff.mp (show (Jvm.Cond.and given_1 narrow_1).before args s = true from hpre))
  obtain ⟨g1a, g1b⟩ := and_e hg
  obtain ⟨g2a, g2b⟩ := and_e g1b
  obtain ⟨g3a, g3b⟩ := and_e g2b
  obtain ⟨g4a, g4b⟩ := and_e g3b
  obtain ⟨g5a, g5b⟩ := and_e g4b
  obtain ⟨w0, w1, w2, w3, w4, rfl⟩ : ∃ w0 w1 w2 w3 w4 : Value, args = #[w0, w1, w2, w3, w4] := by
    have hs : args.size = 5 := by simpa [Cond.value, given_1] using g1a
    obtain ⟨L⟩ := args
    match L, hs with
    | [w0, w1, w2, w3, w4], _ => exact ⟨w0, w1, w2, w3, w4, rfl⟩
  have hw := fun d (hd : d ∈ tables_1) => atoms_spec (ws := Jvm.Cond.code x code maxLocals ret :: tables_1) hat d (List.mem_cons_of_mem _ hd)
  have hfit : Fit s := fun {y c} hc i hi => by
    obtain ⟨ha, rfl⟩ := Array.getElem?_eq_some_iff.mp hc
    have q := List.all_eq_true.mp ((Array.all_eq_true_iff_forall_mem.mp hF) _ (Array.getElem_mem ha)) i (List.mem_range.mpr hi)
    simpa [Array.getElem?_eq_getElem hi] using q
  obtain ⟨vx, ei0⟩ := isL_v g2a
  obtain rfl : w0 = (.long vx) := Option.some.inj ei0
  obtain ⟨vp, ei1⟩ := is_v g3a
  obtain rfl : w1 = (.int vp) := Option.some.inj ei1
  obtain ⟨vg, ei2⟩ := is_v g4a
  obtain rfl : w2 = (.int vg) := Option.some.inj ei2
  obtain ⟨vy, ei3⟩ := isL_v g5a
  obtain rfl : w3 = (.long vy) := Option.some.inj ei3
  obtain ⟨vn, ei4⟩ := is_v g5b
  obtain rfl : w4 = (.int vn) := Option.some.inj ei4
  obtain ⟨n, o, h1, h2, h3, _, L, rfl, ⟨rfl, N⟩, hq⟩ := rm0 l s _ hw tables_1 vx vp vg vy vn  s.heap s.heap.size (Nat.le_refl _)  p e ha hc hk s m _ below hf ((Spec.applies_iff_loose hf).mp happ).1 ⟨rfl, State.Warmed39.refl s, rfl⟩ trivial
  refine ⟨n, _, h1, h2, h3, hpost _ _ _ _ _ _ ⟨Cond.after_iff.mpr rfl, Cond.after_iff.mpr (eq_i res_at (Term.int_eval (1)) rfl), trivial⟩ ⟨hq.1, hq.2.1, (hq.2.2.sift fun y hy => Or.inr (N y hy)).mono (by decide) (by decide)⟩⟩
theorem main_1_1 : Claimed_1_1 := comes_1 fun _ _ _ _ _ _ h hF => ⟨h.1, hF⟩
theorem main_1_2 : Claimed_1_2 := comes_1 fun _ _ _ _ _ _ h hF => ⟨h.2.1, hF⟩
end Jvm.Pilot.@@N@@
namespace Jvm.Pilot.@@N@@
open Jvm Jvm.ClassFile Sem Op Lib Jvm.Free Jvm.Stand Jvm.Pilot.@@N@@.Jvm.D
/-! MADE BY PROGRAM (witnessworld.py) out of the Statement's table words and the real class files: 10 classes; the members and pool entries that the words name. The judged class is class 1, her method 6. -/
namespace start1
open Jvm.ClassFile
def u (s : String) : CpInfo := .utf8 (stringToUtf16 s)
/-- a pool by its gaps: so many unusable entries, then the entry; so many at the end -/
def gap : Nat → List CpInfo → List CpInfo
  | 0, r => r
  | n + 1, r => .unusable :: gap n r
def poolList (es : List (Nat × CpInfo)) (last : Nat) : List CpInfo := es.foldr (fun e r => gap e.1 (e.2 :: r)) (gap last [])
def pool (es : List (Nat × CpInfo)) (last : Nat) : Array CpInfo := ⟨poolList es last⟩
def fileOf (pool : Array CpInfo) (this : Nat) (attrs : Array Attribute := #[]) (ms : Array MethodInfo := #[]) (fl : Nat := 33) (sup : Nat := 0) (ifs : Array Nat := #[]) (fds : Array FieldInfo := #[]) : ClassFile where
  minorVersion := 0
  majorVersion := 65
  constantPool := pool
  accessFlags := fl
  thisClass := this
  superClass := sup
  interfaces := ifs
  fields := fds
  methods := ms
  attributes := attrs
def plain (name : String) (sup : Option ClassId) : Class where
  name := name
  kind := .ordinary
  loader := none
  accessFlags := 33
  super := sup
  interfaces := #[]
  cf := none
  fields := #[]
  methods := #[]
  instanceTypes := #[]
  staticTypes := #[]
  resolved := #[]
  callSites := []
  init := .initialized
  statics := none
  mirror := none

def pool0 : Array CpInfo := pool [(5, u "<init>"), (0, u "()V"), (1, .class_ 10), (1, u "java/lang/Object")] 113

def k0c0 : Code := { maxStack := 0, maxLocals := 1, code := object_method_1_code, exceptionTable := #[], attributes := #[] }
def k0m0 : Method := { name := "<init>", desc := "()V", sig := { parameters := [], returnType := none }, accessFlags := 1, code := some k0c0 }
/-- java/lang/Object -/
def k0 : Class := { plain "java/lang/Object" none with
  accessFlags := 33
  interfaces := #[]
  cf := some (fileOf pool0 8 #[] #[{ accessFlags := 1, nameIndex := 5, descriptorIndex := 6, attributes := #[] }] 33 0 #[] #[])
  fields := #[]
  methods := #[k0m0]
  instanceTypes := #[]
  staticTypes := #[]
  resolved := Array.replicate 124 none
  statics := none }

def pool1 : Array CpInfo := pool [(2, .class_ 4), (1, u "java/lang/Object"), (0, u "<init>"), (0, u "()V"), (0, .methodref 8 9), (0, .class_ 10), (0, .nameAndType 11 12), (0, u "com/example/causeline/causeline/core/BitWriterDigitsPinLaw"), (0, u "expByte"), (0, u "(JJI)B"), (0, .integer 2147483647), (0, .methodref 8 15), (0, .nameAndType 16 17), (0, u "mask"), (0, u "(I)J"), (0, .methodref 8 19), (0, .nameAndType 20 21), (0, u "hiOf"), (0, u "(JI)J"), (0, .methodref 8 23), (0, .nameAndType 24 21), (0, u "loOf"), (0, .class_ 26), (0, u "com/example/causeline/causeline/core/BitWriter"), (0, .methodref 25 28), (0, .nameAndType 5 29), (0, u "(I)V"), (0, .methodref 25 31), (0, .nameAndType 32 33), (0, u "digits"), (0, u "(JI)V"), (0, .methodref 25 35), (0, .nameAndType 36 37), (0, u "zeros"), (0, u "(J)V"), (0, .methodref 25 39), (0, .nameAndType 40 41), (0, u "bytes"), (0, u "()[B"), (0, .methodref 8 43), (0, .nameAndType 44 45), (0, u "at"), (0, u "([BIJJI)Z"), (3, u "law"), (0, u "(JIIJI)Z")] 4

def k1m0 : Method := { name := "<init>", desc := "()V", sig := { parameters := [], returnType := none }, accessFlags := 2, code := none }
def k1c1 : Code := { maxStack := 4, maxLocals := 1, code := method_2_code, exceptionTable := #[], attributes := #[] }
def k1m1 : Method := { name := "mask", desc := "(I)J", sig := { parameters := [.int], returnType := some .long }, accessFlags := 10, code := some k1c1 }
def k1c2 : Code := { maxStack := 3, maxLocals := 4, code := method_3_code, exceptionTable := #[], attributes := #[] }
def k1m2 : Method := { name := "hiOf", desc := "(JI)J", sig := { parameters := [.long, .int], returnType := some .long }, accessFlags := 10, code := some k1c2 }
def k1c3 : Code := { maxStack := 3, maxLocals := 4, code := method_4_code, exceptionTable := #[], attributes := #[] }
def k1m3 : Method := { name := "loOf", desc := "(JI)J", sig := { parameters := [.long, .int], returnType := some .long }, accessFlags := 10, code := some k1c3 }
def k1c4 : Code := { maxStack := 6, maxLocals := 5, code := method_5_code, exceptionTable := #[], attributes := #[] }
def k1m4 : Method := { name := "expByte", desc := "(JJI)B", sig := { parameters := [.long, .long, .int], returnType := some .byte }, accessFlags := 10, code := some k1c4 }
def k1c5 : Code := { maxStack := 6, maxLocals := 7, code := method_6_code, exceptionTable := #[], attributes := #[] }
def k1m5 : Method := { name := "at", desc := "([BIJJI)Z", sig := { parameters := [(.array .byte), .int, .long, .long, .int], returnType := some .boolean }, accessFlags := 10, code := some k1c5 }
def k1c6 : Code := { maxStack := 7, maxLocals := 22, code := code, exceptionTable := #[], attributes := #[] }
def k1m6 : Method := { name := "law", desc := "(JIIJI)Z", sig := { parameters := [.long, .int, .int, .long, .int], returnType := some .boolean }, accessFlags := 9, code := some k1c6 }
/-- com/example/causeline/causeline/core/BitWriterDigitsPinLaw -/
def k1 : Class := { plain "com/example/causeline/causeline/core/BitWriterDigitsPinLaw" (some 0) with
  accessFlags := 49
  interfaces := #[]
  cf := some (fileOf pool1 8 #[] #[{ accessFlags := 2, nameIndex := 5, descriptorIndex := 6, attributes := #[] }, { accessFlags := 10, nameIndex := 16, descriptorIndex := 17, attributes := #[] }, { accessFlags := 10, nameIndex := 20, descriptorIndex := 21, attributes := #[] }, { accessFlags := 10, nameIndex := 24, descriptorIndex := 21, attributes := #[] }, { accessFlags := 10, nameIndex := 11, descriptorIndex := 12, attributes := #[] }, { accessFlags := 10, nameIndex := 44, descriptorIndex := 45, attributes := #[] }, { accessFlags := 9, nameIndex := 49, descriptorIndex := 50, attributes := #[] }] 49 2 #[] #[])
  fields := #[]
  methods := #[k1m0, k1m1, k1m2, k1m3, k1m4, k1m5, k1m6]
  instanceTypes := #[]
  staticTypes := #[]
  resolved := Array.replicate 55 none
  statics := none }

def pool2 : Array CpInfo := pool [(1, .methodref 2 3), (0, .class_ 4), (0, .nameAndType 5 6), (0, u "java/lang/Object"), (0, u "<init>"), (0, u "()V"), (0, .fieldref 8 9), (0, .class_ 10), (0, .nameAndType 11 12), (0, u "com/example/causeline/causeline/core/BitWriter"), (0, u "bytes"), (0, u "[B"), (0, .long 7), (1, .long 8), (1, .methodref 18 19), (0, .class_ 20), (0, .nameAndType 21 22), (0, u "java/lang/Math"), (0, u "toIntExact"), (0, u "(J)I"), (0, .fieldref 8 24), (0, .nameAndType 25 26), (0, u "at"), (0, u "J"), (0, .methodref 8 28), (0, .nameAndType 29 22), (0, u "byteCount"), (9, u "(I)V"), (2, u "zeros"), (0, u "(J)V"), (0, u "digits"), (0, u "(JI)V"), (1, u "()[B")] 17

def k2c0 : Code := { maxStack := 2, maxLocals := 2, code := prog_23_method_1_code, exceptionTable := #[], attributes := #[] }
def k2m0 : Method := { name := "<init>", desc := "(I)V", sig := { parameters := [.int], returnType := none }, accessFlags := 0, code := some k2c0 }
def k2c1 : Code := { maxStack := 4, maxLocals := 2, code := prog_23_method_2_code, exceptionTable := #[], attributes := #[] }
def k2m1 : Method := { name := "byteCount", desc := "(J)I", sig := { parameters := [.long], returnType := some .int }, accessFlags := 8, code := some k2c1 }
def k2c2 : Code := { maxStack := 5, maxLocals := 3, code := prog_23_method_3_code, exceptionTable := #[], attributes := #[] }
def k2m2 : Method := { name := "zeros", desc := "(J)V", sig := { parameters := [.long], returnType := none }, accessFlags := 0, code := some k2c2 }
def k2c3 : Code := { maxStack := 8, maxLocals := 5, code := prog_23_method_4_code, exceptionTable := #[], attributes := #[] }
def k2m3 : Method := { name := "digits", desc := "(JI)V", sig := { parameters := [.long, .int], returnType := none }, accessFlags := 0, code := some k2c3 }
def k2c4 : Code := { maxStack := 5, maxLocals := 1, code := prog_23_method_5_code, exceptionTable := #[], attributes := #[] }
def k2m4 : Method := { name := "bytes", desc := "()[B", sig := { parameters := [], returnType := some (.array .byte) }, accessFlags := 0, code := some k2c4 }
/-- com/example/causeline/causeline/core/BitWriter -/
def k2 : Class := { plain "com/example/causeline/causeline/core/BitWriter" (some 0) with
  accessFlags := 48
  interfaces := #[]
  cf := some (fileOf pool2 8 #[] #[{ accessFlags := 0, nameIndex := 5, descriptorIndex := 39, attributes := #[] }, { accessFlags := 8, nameIndex := 29, descriptorIndex := 22, attributes := #[] }, { accessFlags := 0, nameIndex := 42, descriptorIndex := 43, attributes := #[] }, { accessFlags := 0, nameIndex := 44, descriptorIndex := 45, attributes := #[] }, { accessFlags := 0, nameIndex := 11, descriptorIndex := 47, attributes := #[] }] 48 2 #[] #[{ accessFlags := 18, nameIndex := 11, descriptorIndex := 12, attributes := #[] }, { accessFlags := 2, nameIndex := 25, descriptorIndex := 26, attributes := #[] }])
  fields := #[{ name := "bytes", type := (.array .byte), accessFlags := 18, slot := 0, constantValue := 0 }, { name := "at", type := .long, accessFlags := 2, slot := 1, constantValue := 0 }]
  methods := #[k2m0, k2m1, k2m2, k2m3, k2m4]
  instanceTypes := #[(.array .byte), .long]
  staticTypes := #[]
  resolved := Array.replicate 65 none
  statics := none }

def pool3 : Array CpInfo := pool [(1, .class_ 2), (0, u "java/lang/Math"), (1, .class_ 6), (1, u "java/lang/Object"), (0, u "<init>"), (0, u "()V"), (89, .class_ 100), (1, u "java/lang/Math$RandomNumberGeneratorHolder"), (71, u "negativeZeroFloatBits"), (0, u "J"), (2, u "negativeZeroDoubleBits"), (68, u "$assertionsDisabled"), (0, u "Z"), (91, u "twoToTheDoubleScaleDown"), (0, u "D"), (4, u "twoToTheDoubleScaleUp"), (9, u "E"), (3, u "PI"), (2, u "TAU"), (2, u "DEGREES_TO_RADIANS"), (0, u "RADIANS_TO_DEGREES"), (39, u "toIntExact"), (0, u "(J)I")] 53

def k3m0 : Method := { name := "<init>", desc := "()V", sig := { parameters := [], returnType := none }, accessFlags := 2, code := none }
def k3c1 : Code := { maxStack := 4, maxLocals := 2, code := jdk_29_method_43_code, exceptionTable := #[], attributes := #[] }
def k3m1 : Method := { name := "toIntExact", desc := "(J)I", sig := { parameters := [.long], returnType := some .int }, accessFlags := 9, code := some k3c1 }
/-- java/lang/Math -/
def k3 : Class := { plain "java/lang/Math" (some 0) with
  accessFlags := 49
  interfaces := #[]
  cf := some (fileOf pool3 1 #[.nestMembers #[98]] #[{ accessFlags := 2, nameIndex := 7, descriptorIndex := 8, attributes := #[] }, { accessFlags := 9, nameIndex := 405, descriptorIndex := 406, attributes := #[] }] 49 4 #[] #[{ accessFlags := 25, nameIndex := 354, descriptorIndex := 339, attributes := #[] }, { accessFlags := 25, nameIndex := 358, descriptorIndex := 339, attributes := #[] }, { accessFlags := 25, nameIndex := 361, descriptorIndex := 339, attributes := #[] }, { accessFlags := 26, nameIndex := 364, descriptorIndex := 339, attributes := #[] }, { accessFlags := 26, nameIndex := 365, descriptorIndex := 339, attributes := #[] }, { accessFlags := 26, nameIndex := 172, descriptorIndex := 173, attributes := #[] }, { accessFlags := 26, nameIndex := 176, descriptorIndex := 173, attributes := #[] }, { accessFlags := 8, nameIndex := 344, descriptorIndex := 339, attributes := #[] }, { accessFlags := 8, nameIndex := 338, descriptorIndex := 339, attributes := #[] }, { accessFlags := 4120, nameIndex := 245, descriptorIndex := 246, attributes := #[] }])
  fields := #[{ name := "E", type := .double, accessFlags := 25, slot := 0, constantValue := 0 }, { name := "PI", type := .double, accessFlags := 25, slot := 1, constantValue := 0 }, { name := "TAU", type := .double, accessFlags := 25, slot := 2, constantValue := 0 }, { name := "DEGREES_TO_RADIANS", type := .double, accessFlags := 26, slot := 3, constantValue := 0 }, { name := "RADIANS_TO_DEGREES", type := .double, accessFlags := 26, slot := 4, constantValue := 0 }, { name := "negativeZeroFloatBits", type := .long, accessFlags := 26, slot := 5, constantValue := 0 }, { name := "negativeZeroDoubleBits", type := .long, accessFlags := 26, slot := 6, constantValue := 0 }, { name := "twoToTheDoubleScaleUp", type := .double, accessFlags := 8, slot := 7, constantValue := 0 }, { name := "twoToTheDoubleScaleDown", type := .double, accessFlags := 8, slot := 8, constantValue := 0 }, { name := "$assertionsDisabled", type := .boolean, accessFlags := 4120, slot := 9, constantValue := 0 }]
  methods := #[k3m0, k3m1]
  instanceTypes := #[]
  staticTypes := #[.double, .double, .double, .double, .double, .long, .long, .double, .double, .boolean]
  resolved := Array.replicate 460 none
  statics := none }

def pool4 : Array CpInfo := pool [(1, u "java/lang/Cloneable"), (0, .class_ 1), (0, u "java/lang/Object"), (0, .class_ 3)] 3

/-- java/lang/Cloneable -/
def k4 : Class := { plain "java/lang/Cloneable" (some 0) with
  accessFlags := 1537
  interfaces := #[]
  cf := some (fileOf pool4 2 #[] #[] 1537 4 #[] #[])
  fields := #[]
  methods := #[]
  instanceTypes := #[]
  staticTypes := #[]
  resolved := Array.replicate 8 none
  statics := none }

def pool5 : Array CpInfo := pool [(1, u "java/io/Serializable"), (0, .class_ 1), (0, u "java/lang/Object"), (0, .class_ 3)] 3

/-- java/io/Serializable -/
def k5 : Class := { plain "java/io/Serializable" (some 0) with
  accessFlags := 1537
  interfaces := #[]
  cf := some (fileOf pool5 2 #[] #[] 1537 4 #[] #[])
  fields := #[]
  methods := #[]
  instanceTypes := #[]
  staticTypes := #[]
  resolved := Array.replicate 8 none
  statics := none }

/-- the primitive byte -/
def k6 : Class := { plain "byte" none with kind := .primitive 'B', accessFlags := 0x411 }
/-- [B -/
def k7 : Class := { plain "[B" (some 0) with kind := .array 6 .byte, interfaces := #[4, 5], accessFlags := 1041 }

/-- the primitive int -/
def k8 : Class := { plain "int" none with kind := .primitive 'I', accessFlags := 0x411 }
/-- [I -/
def k9 : Class := { plain "[I" (some 0) with kind := .array 8 .int, interfaces := #[4, 5], accessFlags := 1041 }

def heap : Heap := #[]
def classes : Array Class := #[k0, k1, k2, k3, k4, k5, k6, k7, k8, k9]
def interned : List (Array UInt16 × Addr) := []
def slotsUsed : Nat := 0
def theMethod : MethodId := ⟨1, 6⟩
def args0 : Array Value := #[.long 5, .int 3, .int 2, .long 77, .int 9]
def aboutOver (below : List Frame) : State where
  vm := { classes := classes, interned := interned.toArray }
  heap := heap
  slotsUsed := slotsUsed
  threads := #[{ frames := .invoking theMethod args0 :: below }]
def below0 : List Frame := [.native { method := ⟨0, 0⟩, args := #[] }]
def about1 : State := aboutOver below0
def p0 : Program := .bare "" "" ""
def e0 : Env := launch0.env 0 0 0
theorem w_frames : about1.frames = Frame.invoking theMethod args0 :: below0 := rfl
set_option maxRecDepth 65536 in
theorem w_args : argsFit about1.vm theMethod args0 = true := by decide +kernel
set_option maxRecDepth 65536 in
theorem w_heap : heapFits about1 = true := by decide +kernel
set_option maxRecDepth 65536 in
theorem w_runnable : about1.curStatus? = some .runnable := by decide +kernel
set_option maxRecDepth 65536 in
theorem w_alone : about1.alone = true := by decide +kernel
set_option maxRecDepth 65536 in
theorem w_named : about1.methodNamed? x = some theMethod := by decide +kernel
set_option maxRecDepth 65536 in
theorem w_hears : about1.hears theMethod below0 = true := by decide +kernel
set_option maxRecDepth 65536 in
theorem w_ripe : about1.ripe theMethod args0 below0 = true := by decide +kernel
theorem w_running : about1.status = .running := rfl
set_option maxRecDepth 65536 in
theorem w_room : about1.hasRoom e0.platform room_1 = true :=
  launch0.hasRoom_least _ room_1 (by decide +kernel) (by decide +kernel) (by decide +kernel) (by decide +kernel) (by decide +kernel) (by decide +kernel)
theorem allAtoms_all (ts : List Jvm.Cond) (a : Array Jvm.Value) (st : Jvm.State) : (allAtoms ts).before a st = ts.all (fun c => c.before a st) := by
  induction ts with
  | nil => rfl
  | cons c t ih =>
    show (Jvm.Cond.and c (allAtoms t)).before a st = _
    rw [Jvm.Cond.before_and, ih, List.all_cons]
def words1 : List Jvm.Cond := Jvm.Cond.code x code maxLocals ret :: tables_1
/-- a 'code' word, met by the world's own term for the bytes: nothing is compared byte by byte -/
theorem code_word {y : MethodName} {bytes : ByteArray} {mx : Nat} {rt : Option FieldType} {a : Array Value} {s : State} {m : MethodId} {meth : Method} {c : Code} (h1 : s.methodNamed? y = some m) (h2 : s.vm.method? m = some meth) (h3 : meth.code = some c) (h4 : c.code = bytes)
    (h5 : (c.maxLocals == mx && c.exceptionTable.isEmpty && decide (c.maxStack ≤ mostOperands) && decide (meth.sig.returnType = rt) && !meth.locks && decide (parseMethodDescriptor y.desc = some meth.sig)) = true) : (Jvm.Cond.code y bytes mx rt).before a s = true := by
  simp only [Bool.and_eq_true, beq_iff_eq, Bool.not_eq_true', decide_eq_true_eq] at h5
  obtain ⟨⟨⟨⟨⟨g1, g2⟩, g3⟩, g4⟩, g5⟩, g6⟩ := h5
  simp [Cond.before, Cond.holds, Cond.value, h1, h2, h3, h4, g1, g2, g3, g4, g5, g6]
def isCode : Jvm.Cond → Bool
  | .code _ _ _ _ => true
  | _ => false
theorem all_split {L : List Jvm.Cond} {P : Jvm.Cond → Bool} (h1 : L.all (fun c => isCode c || P c) = true) (h2 : ∀ c ∈ L.filter isCode, P c = true) : L.all P = true := by
  refine List.all_eq_true.mpr fun c hc => ?_
  have h := List.all_eq_true.mp h1 c hc
  rcases Bool.eq_false_or_eq_true (isCode c) with hi | hi
  · exact h2 c (List.mem_filter.mpr ⟨hc, hi⟩)
  · simpa [hi] using h
set_option maxRecDepth 65536 in
theorem w_c0 : (Jvm.Cond.code x code maxLocals ret).before args0 about1 = true := code_word (m := ⟨1, 6⟩) (meth := k1m6) (c := k1c6) (by decide +kernel) rfl rfl rfl (by decide +kernel)
set_option maxRecDepth 65536 in
theorem w_c1 : (Jvm.Cond.code ({ cls := "com/example/causeline/causeline/core/BitWriterDigitsPinLaw", name := "mask", desc := "(I)J" } : Jvm.MethodName) method_2_code (1 : Nat) (Option.some Jvm.ClassFile.FieldType.long)).before args0 about1 = true := code_word (m := ⟨1, 1⟩) (meth := k1m1) (c := k1c1) (by decide +kernel) rfl rfl rfl (by decide +kernel)
set_option maxRecDepth 65536 in
theorem w_c2 : (Jvm.Cond.code ({ cls := "com/example/causeline/causeline/core/BitWriterDigitsPinLaw", name := "hiOf", desc := "(JI)J" } : Jvm.MethodName) method_3_code (4 : Nat) (Option.some Jvm.ClassFile.FieldType.long)).before args0 about1 = true := code_word (m := ⟨1, 2⟩) (meth := k1m2) (c := k1c2) (by decide +kernel) rfl rfl rfl (by decide +kernel)
set_option maxRecDepth 65536 in
theorem w_c3 : (Jvm.Cond.code ({ cls := "com/example/causeline/causeline/core/BitWriterDigitsPinLaw", name := "loOf", desc := "(JI)J" } : Jvm.MethodName) method_4_code (4 : Nat) (Option.some Jvm.ClassFile.FieldType.long)).before args0 about1 = true := code_word (m := ⟨1, 3⟩) (meth := k1m3) (c := k1c3) (by decide +kernel) rfl rfl rfl (by decide +kernel)
set_option maxRecDepth 65536 in
theorem w_c4 : (Jvm.Cond.code ({ cls := "com/example/causeline/causeline/core/BitWriter", name := "<init>", desc := "(I)V" } : Jvm.MethodName) prog_23_method_1_code (2 : Nat) (Option.none : Option Jvm.ClassFile.FieldType)).before args0 about1 = true := code_word (m := ⟨2, 0⟩) (meth := k2m0) (c := k2c0) (by decide +kernel) rfl rfl rfl (by decide +kernel)
set_option maxRecDepth 65536 in
theorem w_c5 : (Jvm.Cond.code ({ cls := "java/lang/Object", name := "<init>", desc := "()V" } : Jvm.MethodName) object_method_1_code (1 : Nat) (Option.none : Option Jvm.ClassFile.FieldType)).before args0 about1 = true := code_word (m := ⟨0, 0⟩) (meth := k0m0) (c := k0c0) (by decide +kernel) rfl rfl rfl (by decide +kernel)
set_option maxRecDepth 65536 in
theorem w_c6 : (Jvm.Cond.code ({ cls := "com/example/causeline/causeline/core/BitWriter", name := "digits", desc := "(JI)V" } : Jvm.MethodName) prog_23_method_4_code (5 : Nat) (Option.none : Option Jvm.ClassFile.FieldType)).before args0 about1 = true := code_word (m := ⟨2, 3⟩) (meth := k2m3) (c := k2c3) (by decide +kernel) rfl rfl rfl (by decide +kernel)
set_option maxRecDepth 65536 in
theorem w_c7 : (Jvm.Cond.code ({ cls := "com/example/causeline/causeline/core/BitWriter", name := "zeros", desc := "(J)V" } : Jvm.MethodName) prog_23_method_3_code (3 : Nat) (Option.none : Option Jvm.ClassFile.FieldType)).before args0 about1 = true := code_word (m := ⟨2, 2⟩) (meth := k2m2) (c := k2c2) (by decide +kernel) rfl rfl rfl (by decide +kernel)
set_option maxRecDepth 65536 in
theorem w_c8 : (Jvm.Cond.code ({ cls := "com/example/causeline/causeline/core/BitWriter", name := "bytes", desc := "()[B" } : Jvm.MethodName) prog_23_method_5_code (1 : Nat) (Option.some (Jvm.ClassFile.FieldType.array Jvm.ClassFile.FieldType.byte))).before args0 about1 = true := code_word (m := ⟨2, 4⟩) (meth := k2m4) (c := k2c4) (by decide +kernel) rfl rfl rfl (by decide +kernel)
set_option maxRecDepth 65536 in
theorem w_c9 : (Jvm.Cond.code ({ cls := "com/example/causeline/causeline/core/BitWriter", name := "byteCount", desc := "(J)I" } : Jvm.MethodName) prog_23_method_2_code (2 : Nat) (Option.some Jvm.ClassFile.FieldType.int)).before args0 about1 = true := code_word (m := ⟨2, 1⟩) (meth := k2m1) (c := k2c1) (by decide +kernel) rfl rfl rfl (by decide +kernel)
set_option maxRecDepth 65536 in
theorem w_c10 : (Jvm.Cond.code ({ cls := "java/lang/Math", name := "toIntExact", desc := "(J)I" } : Jvm.MethodName) jdk_29_method_43_code (2 : Nat) (Option.some Jvm.ClassFile.FieldType.int)).before args0 about1 = true := code_word (m := ⟨3, 1⟩) (meth := k3m1) (c := k3c1) (by decide +kernel) rfl rfl rfl (by decide +kernel)
set_option maxRecDepth 65536 in
theorem w_c11 : (Jvm.Cond.code ({ cls := "com/example/causeline/causeline/core/BitWriterDigitsPinLaw", name := "at", desc := "([BIJJI)Z" } : Jvm.MethodName) method_6_code (7 : Nat) (Option.some Jvm.ClassFile.FieldType.boolean)).before args0 about1 = true := code_word (m := ⟨1, 5⟩) (meth := k1m5) (c := k1c5) (by decide +kernel) rfl rfl rfl (by decide +kernel)
set_option maxRecDepth 65536 in
theorem w_c12 : (Jvm.Cond.code ({ cls := "com/example/causeline/causeline/core/BitWriterDigitsPinLaw", name := "expByte", desc := "(JJI)B" } : Jvm.MethodName) method_5_code (5 : Nat) (Option.some Jvm.ClassFile.FieldType.byte)).before args0 about1 = true := code_word (m := ⟨1, 4⟩) (meth := k1m4) (c := k1c4) (by decide +kernel) rfl rfl rfl (by decide +kernel)
def codes1 : List Jvm.Cond := [Jvm.Cond.code x code maxLocals ret, Jvm.Cond.code ({ cls := "com/example/causeline/causeline/core/BitWriterDigitsPinLaw", name := "mask", desc := "(I)J" } : Jvm.MethodName) method_2_code (1 : Nat) (Option.some Jvm.ClassFile.FieldType.long), Jvm.Cond.code ({ cls := "com/example/causeline/causeline/core/BitWriterDigitsPinLaw", name := "hiOf", desc := "(JI)J" } : Jvm.MethodName) method_3_code (4 : Nat) (Option.some Jvm.ClassFile.FieldType.long), Jvm.Cond.code ({ cls := "com/example/causeline/causeline/core/BitWriterDigitsPinLaw", name := "loOf", desc := "(JI)J" } : Jvm.MethodName) method_4_code (4 : Nat) (Option.some Jvm.ClassFile.FieldType.long), Jvm.Cond.code ({ cls := "com/example/causeline/causeline/core/BitWriter", name := "<init>", desc := "(I)V" } : Jvm.MethodName) prog_23_method_1_code (2 : Nat) (Option.none : Option Jvm.ClassFile.FieldType), Jvm.Cond.code ({ cls := "java/lang/Object", name := "<init>", desc := "()V" } : Jvm.MethodName) object_method_1_code (1 : Nat) (Option.none : Option Jvm.ClassFile.FieldType), Jvm.Cond.code ({ cls := "com/example/causeline/causeline/core/BitWriter", name := "digits", desc := "(JI)V" } : Jvm.MethodName) prog_23_method_4_code (5 : Nat) (Option.none : Option Jvm.ClassFile.FieldType), Jvm.Cond.code ({ cls := "com/example/causeline/causeline/core/BitWriter", name := "zeros", desc := "(J)V" } : Jvm.MethodName) prog_23_method_3_code (3 : Nat) (Option.none : Option Jvm.ClassFile.FieldType), Jvm.Cond.code ({ cls := "com/example/causeline/causeline/core/BitWriter", name := "bytes", desc := "()[B" } : Jvm.MethodName) prog_23_method_5_code (1 : Nat) (Option.some (Jvm.ClassFile.FieldType.array Jvm.ClassFile.FieldType.byte)), Jvm.Cond.code ({ cls := "com/example/causeline/causeline/core/BitWriter", name := "byteCount", desc := "(J)I" } : Jvm.MethodName) prog_23_method_2_code (2 : Nat) (Option.some Jvm.ClassFile.FieldType.int), Jvm.Cond.code ({ cls := "java/lang/Math", name := "toIntExact", desc := "(J)I" } : Jvm.MethodName) jdk_29_method_43_code (2 : Nat) (Option.some Jvm.ClassFile.FieldType.int), Jvm.Cond.code ({ cls := "com/example/causeline/causeline/core/BitWriterDigitsPinLaw", name := "at", desc := "([BIJJI)Z" } : Jvm.MethodName) method_6_code (7 : Nat) (Option.some Jvm.ClassFile.FieldType.boolean), Jvm.Cond.code ({ cls := "com/example/causeline/causeline/core/BitWriterDigitsPinLaw", name := "expByte", desc := "(JJI)B" } : Jvm.MethodName) method_5_code (5 : Nat) (Option.some Jvm.ClassFile.FieldType.byte)]
set_option maxRecDepth 65536 in
theorem codes_eq : words1.filter isCode = codes1 := rfl
theorem w_codes : ∀ c ∈ words1.filter isCode, c.before args0 about1 = true := by
  rw [codes_eq]
  intro c hc
  simp only [codes1, List.mem_cons, List.not_mem_nil, or_false] at hc
  rcases hc with rfl | rfl | rfl | rfl | rfl | rfl | rfl | rfl | rfl | rfl | rfl | rfl | rfl
  · exact w_c0
  · exact w_c1
  · exact w_c2
  · exact w_c3
  · exact w_c4
  · exact w_c5
  · exact w_c6
  · exact w_c7
  · exact w_c8
  · exact w_c9
  · exact w_c10
  · exact w_c11
  · exact w_c12
set_option maxRecDepth 65536 in
theorem w_t1 : (words1.take 24).all (fun c => isCode c || c.before args0 about1) = true := by decide +kernel
set_option maxRecDepth 65536 in
theorem w_t2 : ((words1.drop 24).take 24).all (fun c => isCode c || c.before args0 about1) = true := by decide +kernel
set_option maxRecDepth 65536 in
theorem w_t3 : ((words1.drop 24).drop 24).all (fun c => isCode c || c.before args0 about1) = true := by decide +kernel
theorem w_tables : (allAtoms (Jvm.Cond.code x code maxLocals ret :: tables_1)).before args0 about1 = true := by
  rw [allAtoms_all]
  show words1.all (fun c => c.before args0 about1) = true
  refine all_split ?_ w_codes
  rw [← List.take_append_drop 24 words1, List.all_append, w_t1, ← List.take_append_drop 24 (words1.drop 24), List.all_append, w_t2, w_t3]
  rfl
set_option maxRecDepth 65536 in
theorem w_case : (Jvm.Cond.and given_1 narrow_1).before args0 about1 = true := by decide +kernel
theorem w_applies : (headSpec (Jvm.Cond.code x code maxLocals ret :: tables_1) room_1).applies x e0.platform about1 = true :=
  (Spec.applies_iff w_frames).mpr ⟨w_running, w_runnable, w_alone, w_named, w_hears, w_ripe, w_room, w_tables⟩
theorem atStart : AtStart classFile x code maxLocals ret World_1 tables_1 room_1 Calls_1 rest_1 Pre_1 launch0 p0 e0 about1 theMethod args0 below0 :=
  ⟨lists_1, trivial, launch0.admits_env _ _ _, launch0.least_env, fairChoices_fair.cas, fairChoices_fair.clock, w_frames, w_args, w_heap, w_applies, trivial, trivial, w_case⟩
end start1
theorem witness_1 : WitnessClaimed_1 := ⟨start1.p0, start1.e0, start1.about1, start1.theMethod, start1.args0, start1.below0, start1.atStart⟩
end Jvm.Pilot.@@N@@
