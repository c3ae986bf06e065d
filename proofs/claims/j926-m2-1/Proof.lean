import JvmDerived
import JvmDerived.Pilot.@@N@@Statement
import JvmDerived.Pilot.@@N@@Code
set_option linter.unusedVariables false
set_option linter.unusedSimpArgs false
namespace Jvm.Pilot.@@N@@
open Jvm Jvm.ClassFile Sem Op Lib Jvm.Free Jvm.Stand Jvm.LawKit Jvm.RoadKit Bundle Jvm.Pilot.@@N@@.Jvm.D
theorem d2_0 : decode prog_1_method_4_code 0 = .ok (.iload_n 0, 1) := by decide +kernel
theorem d2_1 : decode prog_1_method_4_code 1 = .ok (.bipush 65, 2) := by decide +kernel
theorem d2_3 : decode prog_1_method_4_code 3 = .ok (.if_icmp .lt 9, 3) := by decide +kernel
theorem d2_12 : decode prog_1_method_4_code 12 = .ok (.iload_n 0, 1) := by decide +kernel
theorem d2_13 : decode prog_1_method_4_code 13 = .ok (.bipush 48, 2) := by decide +kernel
theorem d2_15 : decode prog_1_method_4_code 15 = .ok (.if_icmp .lt 13, 3) := by decide +kernel
theorem d2_28 : decode prog_1_method_4_code 28 = .ok (.iconst 0, 1) := by decide +kernel
theorem d2_29 : decode prog_1_method_4_code 29 = .ok (.ireturn, 1) := by decide +kernel
theorem d2_18 : decode prog_1_method_4_code 18 = .ok (.iload_n 0, 1) := by decide +kernel
theorem d2_19 : decode prog_1_method_4_code 19 = .ok (.bipush 57, 2) := by decide +kernel
theorem d2_21 : decode prog_1_method_4_code 21 = .ok (.if_icmp .gt 7, 3) := by decide +kernel
theorem d2_24 : decode prog_1_method_4_code 24 = .ok (.iconst 1, 1) := by decide +kernel
theorem d2_25 : decode prog_1_method_4_code 25 = .ok (.goto 4, 3) := by decide +kernel
theorem d2_6 : decode prog_1_method_4_code 6 = .ok (.iload_n 0, 1) := by decide +kernel
theorem d2_7 : decode prog_1_method_4_code 7 = .ok (.bipush 90, 2) := by decide +kernel
theorem d2_9 : decode prog_1_method_4_code 9 = .ok (.if_icmp .le 15, 3) := by decide +kernel
theorem pn_16 : plainName "com/example/packet_radio_link/packetradiolink/frame/Address" = true := by first | (simp [plainName, overriddenIn]; done) | decide +kernel
theorem ef_rm2 (m : MethodId) (x0 : Int32) : entryFrame m #[(.int x0)] 1 = mkF m 0 #[.val (.int x0)] [] := by first | (simp [entryFrame, mkF, argsToLocals, Value.category]; done) | rfl
def own_cs (vc : Int32) : Int32 := (if vc < (65 : Int32) then (if vc < (48 : Int32) then (0 : Int32) else (if (57 : Int32) < vc then (0 : Int32) else (1 : Int32))) else (if (90 : Int32) < vc then (if vc < (48 : Int32) then (0 : Int32) else (if (57 : Int32) < vc then (0 : Int32) else (1 : Int32))) else (1 : Int32)))
def Q2 (Z : State) (vc : Int32) (h0 : Heap) (n0 : Nat) (v : Option Value) (h : Heap) (L : List Loc) : Prop := v = some (.int (own_cs vc)) ∧ Fr n0 L ∧ h = h0
set_option maxRecDepth 65536 in
set_option maxHeartbeats 40000000 in
theorem rm2 (l : Launch) (Z : State) (a0 : Array Value) (hw : ∀ d ∈ tables_1, d.before a0 Z = true) (ws : List Jvm.Cond) (vc : Int32) (h0 : Heap) (n0 : Nat) (Z0 : n0 ≤ h0.size) :
    MetFree l (⟨"com/example/packet_radio_link/packetradiolink/frame/Address", "isCallSignCharacter", "(I)Z"⟩ : MethodName) (head1 (Jvm.Cond.code (⟨"com/example/packet_radio_link/packetradiolink/frame/Address", "isCallSignCharacter", "(I)Z"⟩ : MethodName) prog_1_method_4_code 1 (some .boolean) :: ws) ({ frames := 0, cells := 0, slots := 0, locals := 0 } : Room)) (fun a U => a = #[(.int vc)] ∧ Z.Warmed39 U.vm ∧ U.heap = h0) (fun _ _ _ _ _ => True) (fun _ U o U' => ∃ v L, o = .returned v ∧ Q2 Z vc h0 n0 v U'.heap L ∧ FrameEnd U o U' L ({ frames := 0, cells := 0, slots := 0, locals := 0 } : Room).cells ({ frames := 0, cells := 0, slots := 0, locals := 0 } : Room).slots) := by
  refine MetFree.of_bodySF (plainFor_of_name pn_16) hisR ?_
  intro p e s m args below meth c s₁ Bd hml0 hP hK
  obtain ⟨rfl, hZ, hh⟩ := hP
  have hx := Bd.exec
  have hby := Bd.bytes
  have hml : c.maxLocals = 1 := hml0
  have hown : s.vm.findClass "com/example/packet_radio_link/packetradiolink/frame/Address" = some m.cls := findClass_of_methodNamed Bd.named
  have hnm := (name_of_methodNamed Bd.named Bd.method).1
  have X0 : Stand p l e ({ frames := 0, cells := 0, slots := 0, locals := 0 } : Room) s m #[(.int vc)] below meth c s₁ [] 0 0 := Stand.of_body Bd
  have e0 : s₁.heap = h0 := by rw [← hh, Bd.state]; rfl
  have N0 := Fr.nil n0
  have pre0 : ∀ t, Steps p.tables e below (s₁.setTop (mkF m 0 #[.val (.int vc)] [])) t → Steps p.tables e below (s₁.setTop (entryFrame m #[(.int vc)] 1)) t := fun t k => castTop (ef_rm2 m vc) k
  have pre1 : ∀ t, Steps p.tables e below (s₁.setTop (mkF m 3 #[.val (.int vc)] [(.int (65 : Int32)), (.int vc)])) t → Steps p.tables e below (s₁.setTop (entryFrame m #[(.int vc)] 1)) t := by
    intro t kt
    refine pre0 t ?_
    show Steps p.tables e below (s₁.setTop (mkF m 0 #[.val (.int vc)] [])) _
    refine XS.iloadN X0.here hx rfl (hb hby d2_0) rfl ?_
    show Steps p.tables e below (s₁.setTop (mkF m 1 #[.val (.int vc)] [(.int vc)])) _
    refine XS.bipush X0.here hx rfl (hb hby d2_1) ?_
    exact kt
  by_cases hc2 : vc < (65 : Int32)
  ·
    have pre3 : ∀ t, Steps p.tables e below (s₁.setTop (mkF m 15 #[.val (.int vc)] [(.int (48 : Int32)), (.int vc)])) t → Steps p.tables e below (s₁.setTop (entryFrame m #[(.int vc)] 1)) t := by
      intro t kt
      refine pre1 t ?_
      show Steps p.tables e below (s₁.setTop (mkF m 3 #[.val (.int vc)] [(.int (65 : Int32)), (.int vc)])) _
      refine XS.icmpYes X0.here hx rfl (pc0 := 3) (pc' := 12) rfl (hb hby d2_3) rfl (tlt (hc2 : vc < (65 : Int32))).1 (by decide) (by decide) ?_
      show Steps p.tables e below (s₁.setTop (mkF m 12 #[.val (.int vc)] [])) _
      refine XS.iloadN X0.here hx rfl (hb hby d2_12) rfl ?_
      show Steps p.tables e below (s₁.setTop (mkF m 13 #[.val (.int vc)] [(.int vc)])) _
      refine XS.bipush X0.here hx rfl (hb hby d2_13) ?_
      exact kt
    by_cases hc4 : vc < (48 : Int32)
    ·
      obtain ⟨fs, hr, hrun, hended, hW, hsame⟩ := X0.leave (v := some (.int (0 : Int32))) (fun h => by rw [Bd.returns] at h; cases h)
      refine ⟨_, _, pre3 _ ?_, hrun, hended, _, _, rfl, ?_, ⟨_, rfl⟩, hW, hsame.mono (by decide) (by decide)⟩
      ·
        show Steps p.tables e below (s₁.setTop (mkF m 15 #[.val (.int vc)] [(.int (48 : Int32)), (.int vc)])) _
        refine XS.icmpYes X0.here hx rfl (pc0 := 15) (pc' := 28) rfl (hb hby d2_15) rfl (tlt (hc4 : vc < (48 : Int32))).1 (by decide) (by decide) ?_
        show Steps p.tables e below (s₁.setTop (mkF m 28 #[.val (.int vc)] [])) _
        refine XS.iconst X0.here hx rfl (hb hby d2_28) ?_
        show Steps p.tables e below (s₁.setTop (mkF m 29 #[.val (.int vc)] [(.int (0 : Int32))])) _
        exact retN X0 hx (t := .boolean) Bd.returns (by simp) (hb hby d2_29) hr
      ·
        show Q2 Z vc h0 n0 _ s₁.heap _
        rw [e0]
        have hv : (0 : Int32) = (own_cs vc) := by rw [own_cs, if_pos hc2, if_pos hc4]
        exact ⟨(congrArg (fun z => some (Value.int z)) hv), N0, rfl⟩
    ·
      have pre5 : ∀ t, Steps p.tables e below (s₁.setTop (mkF m 21 #[.val (.int vc)] [(.int (57 : Int32)), (.int vc)])) t → Steps p.tables e below (s₁.setTop (entryFrame m #[(.int vc)] 1)) t := by
        intro t kt
        refine pre3 t ?_
        show Steps p.tables e below (s₁.setTop (mkF m 15 #[.val (.int vc)] [(.int (48 : Int32)), (.int vc)])) _
        refine XS.icmpNo X0.here hx rfl (hb hby d2_15) rfl (flt (hc4 : ¬ (vc < (48 : Int32)))).1 ?_
        show Steps p.tables e below (s₁.setTop (mkF m 18 #[.val (.int vc)] [])) _
        refine XS.iloadN X0.here hx rfl (hb hby d2_18) rfl ?_
        show Steps p.tables e below (s₁.setTop (mkF m 19 #[.val (.int vc)] [(.int vc)])) _
        refine XS.bipush X0.here hx rfl (hb hby d2_19) ?_
        exact kt
      by_cases hc6 : (57 : Int32) < vc
      ·
        obtain ⟨fs, hr, hrun, hended, hW, hsame⟩ := X0.leave (v := some (.int (0 : Int32))) (fun h => by rw [Bd.returns] at h; cases h)
        refine ⟨_, _, pre5 _ ?_, hrun, hended, _, _, rfl, ?_, ⟨_, rfl⟩, hW, hsame.mono (by decide) (by decide)⟩
        ·
          show Steps p.tables e below (s₁.setTop (mkF m 21 #[.val (.int vc)] [(.int (57 : Int32)), (.int vc)])) _
          refine XS.icmpYes X0.here hx rfl (pc0 := 21) (pc' := 28) rfl (hb hby d2_21) rfl (tlt (hc6 : (57 : Int32) < vc)).2.2.1 (by decide) (by decide) ?_
          show Steps p.tables e below (s₁.setTop (mkF m 28 #[.val (.int vc)] [])) _
          refine XS.iconst X0.here hx rfl (hb hby d2_28) ?_
          show Steps p.tables e below (s₁.setTop (mkF m 29 #[.val (.int vc)] [(.int (0 : Int32))])) _
          exact retN X0 hx (t := .boolean) Bd.returns (by simp) (hb hby d2_29) hr
        ·
          show Q2 Z vc h0 n0 _ s₁.heap _
          rw [e0]
          have hv : (0 : Int32) = (own_cs vc) := by rw [own_cs, if_pos hc2, if_neg hc4, if_pos hc6]
          exact ⟨(congrArg (fun z => some (Value.int z)) hv), N0, rfl⟩
      ·
        obtain ⟨fs, hr, hrun, hended, hW, hsame⟩ := X0.leave (v := some (.int (1 : Int32))) (fun h => by rw [Bd.returns] at h; cases h)
        refine ⟨_, _, pre5 _ ?_, hrun, hended, _, _, rfl, ?_, ⟨_, rfl⟩, hW, hsame.mono (by decide) (by decide)⟩
        ·
          show Steps p.tables e below (s₁.setTop (mkF m 21 #[.val (.int vc)] [(.int (57 : Int32)), (.int vc)])) _
          refine XS.icmpNo X0.here hx rfl (hb hby d2_21) rfl (flt (hc6 : ¬ ((57 : Int32) < vc))).2.2.1 ?_
          show Steps p.tables e below (s₁.setTop (mkF m 24 #[.val (.int vc)] [])) _
          refine XS.iconst X0.here hx rfl (hb hby d2_24) ?_
          show Steps p.tables e below (s₁.setTop (mkF m 25 #[.val (.int vc)] [(.int (1 : Int32))])) _
          refine XS.goto X0.here hx rfl (pc0 := 25) (pc' := 29) rfl (hb hby d2_25) (by decide) (by decide) ?_
          show Steps p.tables e below (s₁.setTop (mkF m 29 #[.val (.int vc)] [(.int (1 : Int32))])) _
          exact retN X0 hx (t := .boolean) Bd.returns (by simp) (hb hby d2_29) hr
        ·
          show Q2 Z vc h0 n0 _ s₁.heap _
          rw [e0]
          have hv : (1 : Int32) = (own_cs vc) := by rw [own_cs, if_pos hc2, if_neg hc4, if_neg hc6]
          exact ⟨(congrArg (fun z => some (Value.int z)) hv), N0, rfl⟩
  ·
    have pre7 : ∀ t, Steps p.tables e below (s₁.setTop (mkF m 9 #[.val (.int vc)] [(.int (90 : Int32)), (.int vc)])) t → Steps p.tables e below (s₁.setTop (entryFrame m #[(.int vc)] 1)) t := by
      intro t kt
      refine pre1 t ?_
      show Steps p.tables e below (s₁.setTop (mkF m 3 #[.val (.int vc)] [(.int (65 : Int32)), (.int vc)])) _
      refine XS.icmpNo X0.here hx rfl (hb hby d2_3) rfl (flt (hc2 : ¬ (vc < (65 : Int32)))).1 ?_
      show Steps p.tables e below (s₁.setTop (mkF m 6 #[.val (.int vc)] [])) _
      refine XS.iloadN X0.here hx rfl (hb hby d2_6) rfl ?_
      show Steps p.tables e below (s₁.setTop (mkF m 7 #[.val (.int vc)] [(.int vc)])) _
      refine XS.bipush X0.here hx rfl (hb hby d2_7) ?_
      exact kt
    by_cases hc8 : (90 : Int32) < vc
    ·
      have pre9 : ∀ t, Steps p.tables e below (s₁.setTop (mkF m 15 #[.val (.int vc)] [(.int (48 : Int32)), (.int vc)])) t → Steps p.tables e below (s₁.setTop (entryFrame m #[(.int vc)] 1)) t := by
        intro t kt
        refine pre7 t ?_
        show Steps p.tables e below (s₁.setTop (mkF m 9 #[.val (.int vc)] [(.int (90 : Int32)), (.int vc)])) _
        refine XS.icmpNo X0.here hx rfl (hb hby d2_9) rfl (tlt (hc8 : (90 : Int32) < vc)).2.2.2 ?_
        show Steps p.tables e below (s₁.setTop (mkF m 12 #[.val (.int vc)] [])) _
        refine XS.iloadN X0.here hx rfl (hb hby d2_12) rfl ?_
        show Steps p.tables e below (s₁.setTop (mkF m 13 #[.val (.int vc)] [(.int vc)])) _
        refine XS.bipush X0.here hx rfl (hb hby d2_13) ?_
        exact kt
      by_cases hc10 : vc < (48 : Int32)
      ·
        obtain ⟨fs, hr, hrun, hended, hW, hsame⟩ := X0.leave (v := some (.int (0 : Int32))) (fun h => by rw [Bd.returns] at h; cases h)
        refine ⟨_, _, pre9 _ ?_, hrun, hended, _, _, rfl, ?_, ⟨_, rfl⟩, hW, hsame.mono (by decide) (by decide)⟩
        ·
          show Steps p.tables e below (s₁.setTop (mkF m 15 #[.val (.int vc)] [(.int (48 : Int32)), (.int vc)])) _
          refine XS.icmpYes X0.here hx rfl (pc0 := 15) (pc' := 28) rfl (hb hby d2_15) rfl (tlt (hc10 : vc < (48 : Int32))).1 (by decide) (by decide) ?_
          show Steps p.tables e below (s₁.setTop (mkF m 28 #[.val (.int vc)] [])) _
          refine XS.iconst X0.here hx rfl (hb hby d2_28) ?_
          show Steps p.tables e below (s₁.setTop (mkF m 29 #[.val (.int vc)] [(.int (0 : Int32))])) _
          exact retN X0 hx (t := .boolean) Bd.returns (by simp) (hb hby d2_29) hr
        ·
          show Q2 Z vc h0 n0 _ s₁.heap _
          rw [e0]
          have hv : (0 : Int32) = (own_cs vc) := by rw [own_cs, if_neg hc2, if_pos hc8, if_pos hc10]
          exact ⟨(congrArg (fun z => some (Value.int z)) hv), N0, rfl⟩
      ·
        have pre11 : ∀ t, Steps p.tables e below (s₁.setTop (mkF m 21 #[.val (.int vc)] [(.int (57 : Int32)), (.int vc)])) t → Steps p.tables e below (s₁.setTop (entryFrame m #[(.int vc)] 1)) t := by
          intro t kt
          refine pre9 t ?_
          show Steps p.tables e below (s₁.setTop (mkF m 15 #[.val (.int vc)] [(.int (48 : Int32)), (.int vc)])) _
          refine XS.icmpNo X0.here hx rfl (hb hby d2_15) rfl (flt (hc10 : ¬ (vc < (48 : Int32)))).1 ?_
          show Steps p.tables e below (s₁.setTop (mkF m 18 #[.val (.int vc)] [])) _
          refine XS.iloadN X0.here hx rfl (hb hby d2_18) rfl ?_
          show Steps p.tables e below (s₁.setTop (mkF m 19 #[.val (.int vc)] [(.int vc)])) _
          refine XS.bipush X0.here hx rfl (hb hby d2_19) ?_
          exact kt
        by_cases hc12 : (57 : Int32) < vc
        ·
          obtain ⟨fs, hr, hrun, hended, hW, hsame⟩ := X0.leave (v := some (.int (0 : Int32))) (fun h => by rw [Bd.returns] at h; cases h)
          refine ⟨_, _, pre11 _ ?_, hrun, hended, _, _, rfl, ?_, ⟨_, rfl⟩, hW, hsame.mono (by decide) (by decide)⟩
          ·
            show Steps p.tables e below (s₁.setTop (mkF m 21 #[.val (.int vc)] [(.int (57 : Int32)), (.int vc)])) _
            refine XS.icmpYes X0.here hx rfl (pc0 := 21) (pc' := 28) rfl (hb hby d2_21) rfl (tlt (hc12 : (57 : Int32) < vc)).2.2.1 (by decide) (by decide) ?_
            show Steps p.tables e below (s₁.setTop (mkF m 28 #[.val (.int vc)] [])) _
            refine XS.iconst X0.here hx rfl (hb hby d2_28) ?_
            show Steps p.tables e below (s₁.setTop (mkF m 29 #[.val (.int vc)] [(.int (0 : Int32))])) _
            exact retN X0 hx (t := .boolean) Bd.returns (by simp) (hb hby d2_29) hr
          ·
            show Q2 Z vc h0 n0 _ s₁.heap _
            rw [e0]
            have hv : (0 : Int32) = (own_cs vc) := by rw [own_cs, if_neg hc2, if_pos hc8, if_neg hc10, if_pos hc12]
            exact ⟨(congrArg (fun z => some (Value.int z)) hv), N0, rfl⟩
        ·
          obtain ⟨fs, hr, hrun, hended, hW, hsame⟩ := X0.leave (v := some (.int (1 : Int32))) (fun h => by rw [Bd.returns] at h; cases h)
          refine ⟨_, _, pre11 _ ?_, hrun, hended, _, _, rfl, ?_, ⟨_, rfl⟩, hW, hsame.mono (by decide) (by decide)⟩
          ·
            show Steps p.tables e below (s₁.setTop (mkF m 21 #[.val (.int vc)] [(.int (57 : Int32)), (.int vc)])) _
            refine XS.icmpNo X0.here hx rfl (hb hby d2_21) rfl (flt (hc12 : ¬ ((57 : Int32) < vc))).2.2.1 ?_
            show Steps p.tables e below (s₁.setTop (mkF m 24 #[.val (.int vc)] [])) _
            refine XS.iconst X0.here hx rfl (hb hby d2_24) ?_
            show Steps p.tables e below (s₁.setTop (mkF m 25 #[.val (.int vc)] [(.int (1 : Int32))])) _
            refine XS.goto X0.here hx rfl (pc0 := 25) (pc' := 29) rfl (hb hby d2_25) (by decide) (by decide) ?_
            show Steps p.tables e below (s₁.setTop (mkF m 29 #[.val (.int vc)] [(.int (1 : Int32))])) _
            exact retN X0 hx (t := .boolean) Bd.returns (by simp) (hb hby d2_29) hr
          ·
            show Q2 Z vc h0 n0 _ s₁.heap _
            rw [e0]
            have hv : (1 : Int32) = (own_cs vc) := by rw [own_cs, if_neg hc2, if_pos hc8, if_neg hc10, if_neg hc12]
            exact ⟨(congrArg (fun z => some (Value.int z)) hv), N0, rfl⟩
    ·
      obtain ⟨fs, hr, hrun, hended, hW, hsame⟩ := X0.leave (v := some (.int (1 : Int32))) (fun h => by rw [Bd.returns] at h; cases h)
      refine ⟨_, _, pre7 _ ?_, hrun, hended, _, _, rfl, ?_, ⟨_, rfl⟩, hW, hsame.mono (by decide) (by decide)⟩
      ·
        show Steps p.tables e below (s₁.setTop (mkF m 9 #[.val (.int vc)] [(.int (90 : Int32)), (.int vc)])) _
        refine XS.icmpYes X0.here hx rfl (pc0 := 9) (pc' := 24) rfl (hb hby d2_9) rfl (flt (hc8 : ¬ ((90 : Int32) < vc))).2.2.2 (by decide) (by decide) ?_
        show Steps p.tables e below (s₁.setTop (mkF m 24 #[.val (.int vc)] [])) _
        refine XS.iconst X0.here hx rfl (hb hby d2_24) ?_
        show Steps p.tables e below (s₁.setTop (mkF m 25 #[.val (.int vc)] [(.int (1 : Int32))])) _
        refine XS.goto X0.here hx rfl (pc0 := 25) (pc' := 29) rfl (hb hby d2_25) (by decide) (by decide) ?_
        show Steps p.tables e below (s₁.setTop (mkF m 29 #[.val (.int vc)] [(.int (1 : Int32))])) _
        exact retN X0 hx (t := .boolean) Bd.returns (by simp) (hb hby d2_29) hr
      ·
        show Q2 Z vc h0 n0 _ s₁.heap _
        rw [e0]
        have hv : (1 : Int32) = (own_cs vc) := by rw [own_cs, if_neg hc2, if_neg hc8]
        exact ⟨(congrArg (fun z => some (Value.int z)) hv), N0, rfl⟩
theorem d3_0 : decode method_2_code 0 = .ok (.iload_n 0, 1) := by decide +kernel
theorem d3_1 : decode method_2_code 1 = .ok (.i2l, 1) := by decide +kernel
theorem d3_2 : decode method_2_code 2 = .ok (.ldc2_w 7, 3) := by decide +kernel
theorem d3_5 : decode method_2_code 5 = .ok (.lsub, 1) := by decide +kernel
theorem d3_6 : decode method_2_code 6 = .ok (.lstore_n 1, 1) := by decide +kernel
theorem d3_7 : decode method_2_code 7 = .ok (.iload_n 0, 1) := by decide +kernel
theorem d3_8 : decode method_2_code 8 = .ok (.i2l, 1) := by decide +kernel
theorem d3_9 : decode method_2_code 9 = .ok (.ldc2_w 9, 3) := by decide +kernel
theorem d3_12 : decode method_2_code 12 = .ok (.lsub, 1) := by decide +kernel
theorem d3_13 : decode method_2_code 13 = .ok (.lstore_n 3, 1) := by decide +kernel
theorem d3_14 : decode method_2_code 14 = .ok (.lload_n 1, 1) := by decide +kernel
theorem d3_15 : decode method_2_code 15 = .ok (.lconst 0, 1) := by decide +kernel
theorem d3_16 : decode method_2_code 16 = .ok (.lcmp, 1) := by decide +kernel
theorem d3_17 : decode method_2_code 17 = .ok (.ifCond .lt 15, 3) := by decide +kernel
theorem d3_32 : decode method_2_code 32 = .ok (.iconst 0, 1) := by decide +kernel
theorem d3_33 : decode method_2_code 33 = .ok (.istore 5, 2) := by decide +kernel
theorem d3_35 : decode method_2_code 35 = .ok (.lload_n 3, 1) := by decide +kernel
theorem d3_36 : decode method_2_code 36 = .ok (.lconst 0, 1) := by decide +kernel
theorem d3_37 : decode method_2_code 37 = .ok (.lcmp, 1) := by decide +kernel
theorem d3_38 : decode method_2_code 38 = .ok (.ifCond .lt 15, 3) := by decide +kernel
theorem d3_53 : decode method_2_code 53 = .ok (.iconst 0, 1) := by decide +kernel
theorem d3_54 : decode method_2_code 54 = .ok (.istore 6, 2) := by decide +kernel
theorem d3_56 : decode method_2_code 56 = .ok (.iload 5, 2) := by decide +kernel
theorem d3_58 : decode method_2_code 58 = .ok (.ifCond .ne 8, 3) := by decide +kernel
theorem d3_61 : decode method_2_code 61 = .ok (.iload 6, 2) := by decide +kernel
theorem d3_63 : decode method_2_code 63 = .ok (.ifCond .eq 7, 3) := by decide +kernel
theorem d3_70 : decode method_2_code 70 = .ok (.iconst 0, 1) := by decide +kernel
theorem d3_71 : decode method_2_code 71 = .ok (.ireturn, 1) := by decide +kernel
theorem d3_41 : decode method_2_code 41 = .ok (.lload_n 3, 1) := by decide +kernel
theorem d3_42 : decode method_2_code 42 = .ok (.ldc2_w 13, 3) := by decide +kernel
theorem d3_45 : decode method_2_code 45 = .ok (.lcmp, 1) := by decide +kernel
theorem d3_46 : decode method_2_code 46 = .ok (.ifCond .gt 7, 3) := by decide +kernel
theorem d3_49 : decode method_2_code 49 = .ok (.iconst 1, 1) := by decide +kernel
theorem d3_50 : decode method_2_code 50 = .ok (.goto 4, 3) := by decide +kernel
theorem d3_66 : decode method_2_code 66 = .ok (.iconst 1, 1) := by decide +kernel
theorem d3_67 : decode method_2_code 67 = .ok (.goto 4, 3) := by decide +kernel
theorem d3_20 : decode method_2_code 20 = .ok (.lload_n 1, 1) := by decide +kernel
theorem d3_21 : decode method_2_code 21 = .ok (.ldc2_w 11, 3) := by decide +kernel
theorem d3_24 : decode method_2_code 24 = .ok (.lcmp, 1) := by decide +kernel
theorem d3_25 : decode method_2_code 25 = .ok (.ifCond .gt 7, 3) := by decide +kernel
theorem d3_28 : decode method_2_code 28 = .ok (.iconst 1, 1) := by decide +kernel
theorem d3_29 : decode method_2_code 29 = .ok (.goto 4, 3) := by decide +kernel
theorem pn_59 : plainName "com/example/packet_radio_link/packetradiolink/frame/AddressIsCallSignCharacterPinLaw" = true := by first | (simp [plainName, overriddenIn]; done) | decide +kernel
theorem ef_rm3 (m : MethodId) (x0 : Int32) : entryFrame m #[(.int x0)] 7 = mkF m 0 #[.val (.int x0), .unset, .unset, .unset, .unset, .unset, .unset] [] := by first | (simp [entryFrame, mkF, argsToLocals, Value.category]; done) | rfl
def own_ref (vc : Int32) : Int32 := (if ((vc.toInt64) - (65 : Int64)) < (0 : Int64) then (if ((vc.toInt64) - (48 : Int64)) < (0 : Int64) then (0 : Int32) else (if (9 : Int64) < ((vc.toInt64) - (48 : Int64)) then (0 : Int32) else (1 : Int32))) else (if (25 : Int64) < ((vc.toInt64) - (65 : Int64)) then (if ((vc.toInt64) - (48 : Int64)) < (0 : Int64) then (0 : Int32) else (if (9 : Int64) < ((vc.toInt64) - (48 : Int64)) then (0 : Int32) else (1 : Int32))) else (if ((vc.toInt64) - (48 : Int64)) < (0 : Int64) then (1 : Int32) else (if (9 : Int64) < ((vc.toInt64) - (48 : Int64)) then (1 : Int32) else (1 : Int32)))))
def Q3 (Z : State) (vc : Int32) (h0 : Heap) (n0 : Nat) (v : Option Value) (h : Heap) (L : List Loc) : Prop := v = some (.int (own_ref vc)) ∧ Fr n0 L ∧ h = h0
set_option maxRecDepth 65536 in
set_option maxHeartbeats 40000000 in
theorem rm3 (l : Launch) (Z : State) (a0 : Array Value) (hw : ∀ d ∈ tables_1, d.before a0 Z = true) (ws : List Jvm.Cond) (vc : Int32) (h0 : Heap) (n0 : Nat) (Z0 : n0 ≤ h0.size) :
    MetFree l (⟨"com/example/packet_radio_link/packetradiolink/frame/AddressIsCallSignCharacterPinLaw", "ref", "(I)Z"⟩ : MethodName) (head1 (Jvm.Cond.code (⟨"com/example/packet_radio_link/packetradiolink/frame/AddressIsCallSignCharacterPinLaw", "ref", "(I)Z"⟩ : MethodName) method_2_code 7 (some .boolean) :: ws) ({ frames := 0, cells := 0, slots := 0, locals := 0 } : Room)) (fun a U => a = #[(.int vc)] ∧ Z.Warmed39 U.vm ∧ U.heap = h0) (fun _ _ _ _ _ => True) (fun _ U o U' => ∃ v L, o = .returned v ∧ Q3 Z vc h0 n0 v U'.heap L ∧ FrameEnd U o U' L ({ frames := 0, cells := 0, slots := 0, locals := 0 } : Room).cells ({ frames := 0, cells := 0, slots := 0, locals := 0 } : Room).slots) := by
  refine MetFree.of_bodySF (plainFor_of_name pn_59) hisR ?_
  intro p e s m args below meth c s₁ Bd hml0 hP hK
  obtain ⟨rfl, hZ, hh⟩ := hP
  have hx := Bd.exec
  have hby := Bd.bytes
  have hml : c.maxLocals = 7 := hml0
  have hown : s.vm.findClass "com/example/packet_radio_link/packetradiolink/frame/AddressIsCallSignCharacterPinLaw" = some m.cls := findClass_of_methodNamed Bd.named
  have hnm := (name_of_methodNamed Bd.named Bd.method).1
  have X0 : Stand p l e ({ frames := 0, cells := 0, slots := 0, locals := 0 } : Room) s m #[(.int vc)] below meth c s₁ [] 0 0 := Stand.of_body Bd
  have e0 : s₁.heap = h0 := by rw [← hh, Bd.state]; rfl
  have N0 := Fr.nil n0
  have pre0 : ∀ t, Steps p.tables e below (s₁.setTop (mkF m 0 #[.val (.int vc), .unset, .unset, .unset, .unset, .unset, .unset] [])) t → Steps p.tables e below (s₁.setTop (entryFrame m #[(.int vc)] 7)) t := fun t k => castTop (ef_rm3 m vc) k
  have pre1 : ∀ t, Steps p.tables e below (s₁.setTop (mkF m 17 #[.val (.int vc), .val (.long ((vc.toInt64) - (65 : Int64))), .second, .val (.long ((vc.toInt64) - (48 : Int64))), .second, .unset, .unset] [(.int (lcmpW ((vc.toInt64) - (65 : Int64)) (0 : Int64)))])) t → Steps p.tables e below (s₁.setTop (entryFrame m #[(.int vc)] 7)) t := by
    intro t kt
    refine pre0 t ?_
    show Steps p.tables e below (s₁.setTop (mkF m 0 #[.val (.int vc), .unset, .unset, .unset, .unset, .unset, .unset] [])) _
    refine XS.iloadN X0.here hx rfl (hb hby d3_0) rfl ?_
    show Steps p.tables e below (s₁.setTop (mkF m 1 #[.val (.int vc), .unset, .unset, .unset, .unset, .unset, .unset] [(.int vc)])) _
    refine XS.i2l X0.here hx rfl (hb hby d3_1) rfl ?_
    show Steps p.tables e below (s₁.setTop (mkF m 2 #[.val (.int vc), .unset, .unset, .unset, .unset, .unset, .unset] [(.long (vc.toInt64))])) _
    refine X0.ldc2J hx hown (mvT hZ (hw _ (List.mem_of_getElem? (i := 11) rfl))) (g := (mkF m 2 #[.val (.int vc), .unset, .unset, .unset, .unset, .unset, .unset] [(.long (vc.toInt64))])) rfl (hb hby d3_2) ?_
    show Steps p.tables e below (s₁.setTop (mkF m 5 #[.val (.int vc), .unset, .unset, .unset, .unset, .unset, .unset] [(.long (65 : Int64)), (.long (vc.toInt64))])) _
    refine XS.lsub X0.here hx rfl (hb hby d3_5) rfl ?_
    show Steps p.tables e below (s₁.setTop (mkF m 6 #[.val (.int vc), .unset, .unset, .unset, .unset, .unset, .unset] [(.long ((vc.toInt64) - (65 : Int64)))])) _
    refine XS.lstoreN X0.here hx rfl (hb hby d3_6) rfl (l' := #[.val (.int vc), .val (.long ((vc.toInt64) - (65 : Int64))), .second, .unset, .unset, .unset, .unset]) rfl ?_
    show Steps p.tables e below (s₁.setTop (mkF m 7 #[.val (.int vc), .val (.long ((vc.toInt64) - (65 : Int64))), .second, .unset, .unset, .unset, .unset] [])) _
    refine XS.iloadN X0.here hx rfl (hb hby d3_7) rfl ?_
    show Steps p.tables e below (s₁.setTop (mkF m 8 #[.val (.int vc), .val (.long ((vc.toInt64) - (65 : Int64))), .second, .unset, .unset, .unset, .unset] [(.int vc)])) _
    refine XS.i2l X0.here hx rfl (hb hby d3_8) rfl ?_
    show Steps p.tables e below (s₁.setTop (mkF m 9 #[.val (.int vc), .val (.long ((vc.toInt64) - (65 : Int64))), .second, .unset, .unset, .unset, .unset] [(.long (vc.toInt64))])) _
    refine X0.ldc2J hx hown (mvT hZ (hw _ (List.mem_of_getElem? (i := 12) rfl))) (g := (mkF m 9 #[.val (.int vc), .val (.long ((vc.toInt64) - (65 : Int64))), .second, .unset, .unset, .unset, .unset] [(.long (vc.toInt64))])) rfl (hb hby d3_9) ?_
    show Steps p.tables e below (s₁.setTop (mkF m 12 #[.val (.int vc), .val (.long ((vc.toInt64) - (65 : Int64))), .second, .unset, .unset, .unset, .unset] [(.long (48 : Int64)), (.long (vc.toInt64))])) _
    refine XS.lsub X0.here hx rfl (hb hby d3_12) rfl ?_
    show Steps p.tables e below (s₁.setTop (mkF m 13 #[.val (.int vc), .val (.long ((vc.toInt64) - (65 : Int64))), .second, .unset, .unset, .unset, .unset] [(.long ((vc.toInt64) - (48 : Int64)))])) _
    refine XS.lstoreN X0.here hx rfl (hb hby d3_13) rfl (l' := #[.val (.int vc), .val (.long ((vc.toInt64) - (65 : Int64))), .second, .val (.long ((vc.toInt64) - (48 : Int64))), .second, .unset, .unset]) rfl ?_
    show Steps p.tables e below (s₁.setTop (mkF m 14 #[.val (.int vc), .val (.long ((vc.toInt64) - (65 : Int64))), .second, .val (.long ((vc.toInt64) - (48 : Int64))), .second, .unset, .unset] [])) _
    refine XS.lloadN X0.here hx rfl (hb hby d3_14) rfl ?_
    show Steps p.tables e below (s₁.setTop (mkF m 15 #[.val (.int vc), .val (.long ((vc.toInt64) - (65 : Int64))), .second, .val (.long ((vc.toInt64) - (48 : Int64))), .second, .unset, .unset] [(.long ((vc.toInt64) - (65 : Int64)))])) _
    refine XS.lconst X0.here hx rfl (hb hby d3_15) ?_
    show Steps p.tables e below (s₁.setTop (mkF m 16 #[.val (.int vc), .val (.long ((vc.toInt64) - (65 : Int64))), .second, .val (.long ((vc.toInt64) - (48 : Int64))), .second, .unset, .unset] [(.long (0 : Int64)), (.long ((vc.toInt64) - (65 : Int64)))])) _
    refine XS.lcmp X0.here hx rfl (hb hby d3_16) rfl ?_
    exact kt
  by_cases hc2 : ((vc.toInt64) - (65 : Int64)) < (0 : Int64)
  ·
    have pre3 : ∀ t, Steps p.tables e below (s₁.setTop (mkF m 38 #[.val (.int vc), .val (.long ((vc.toInt64) - (65 : Int64))), .second, .val (.long ((vc.toInt64) - (48 : Int64))), .second, .val (.int (0 : Int32)), .unset] [(.int (lcmpW ((vc.toInt64) - (48 : Int64)) (0 : Int64)))])) t → Steps p.tables e below (s₁.setTop (entryFrame m #[(.int vc)] 7)) t := by
      intro t kt
      refine pre1 t ?_
      show Steps p.tables e below (s₁.setTop (mkF m 17 #[.val (.int vc), .val (.long ((vc.toInt64) - (65 : Int64))), .second, .val (.long ((vc.toInt64) - (48 : Int64))), .second, .unset, .unset] [(.int (lcmpW ((vc.toInt64) - (65 : Int64)) (0 : Int64)))])) _
      refine XS.ifYes X0.here hx rfl (pc0 := 17) (pc' := 32) rfl (hb hby d3_17) rfl ((if0 _ _).trans (tlt (((lw_lt _ _).mpr hc2) : (lcmpW ((vc.toInt64) - (65 : Int64)) (0 : Int64)) < (0 : Int32))).1) (by decide) (by decide) ?_
      show Steps p.tables e below (s₁.setTop (mkF m 32 #[.val (.int vc), .val (.long ((vc.toInt64) - (65 : Int64))), .second, .val (.long ((vc.toInt64) - (48 : Int64))), .second, .unset, .unset] [])) _
      refine XS.iconst X0.here hx rfl (hb hby d3_32) ?_
      show Steps p.tables e below (s₁.setTop (mkF m 33 #[.val (.int vc), .val (.long ((vc.toInt64) - (65 : Int64))), .second, .val (.long ((vc.toInt64) - (48 : Int64))), .second, .unset, .unset] [(.int (0 : Int32))])) _
      refine XS.istore X0.here hx rfl (hb hby d3_33) rfl (l' := #[.val (.int vc), .val (.long ((vc.toInt64) - (65 : Int64))), .second, .val (.long ((vc.toInt64) - (48 : Int64))), .second, .val (.int (0 : Int32)), .unset]) rfl ?_
      show Steps p.tables e below (s₁.setTop (mkF m 35 #[.val (.int vc), .val (.long ((vc.toInt64) - (65 : Int64))), .second, .val (.long ((vc.toInt64) - (48 : Int64))), .second, .val (.int (0 : Int32)), .unset] [])) _
      refine XS.lloadN X0.here hx rfl (hb hby d3_35) rfl ?_
      show Steps p.tables e below (s₁.setTop (mkF m 36 #[.val (.int vc), .val (.long ((vc.toInt64) - (65 : Int64))), .second, .val (.long ((vc.toInt64) - (48 : Int64))), .second, .val (.int (0 : Int32)), .unset] [(.long ((vc.toInt64) - (48 : Int64)))])) _
      refine XS.lconst X0.here hx rfl (hb hby d3_36) ?_
      show Steps p.tables e below (s₁.setTop (mkF m 37 #[.val (.int vc), .val (.long ((vc.toInt64) - (65 : Int64))), .second, .val (.long ((vc.toInt64) - (48 : Int64))), .second, .val (.int (0 : Int32)), .unset] [(.long (0 : Int64)), (.long ((vc.toInt64) - (48 : Int64)))])) _
      refine XS.lcmp X0.here hx rfl (hb hby d3_37) rfl ?_
      exact kt
    by_cases hc4 : ((vc.toInt64) - (48 : Int64)) < (0 : Int64)
    ·
      obtain ⟨fs, hr, hrun, hended, hW, hsame⟩ := X0.leave (v := some (.int (0 : Int32))) (fun h => by rw [Bd.returns] at h; cases h)
      refine ⟨_, _, pre3 _ ?_, hrun, hended, _, _, rfl, ?_, ⟨_, rfl⟩, hW, hsame.mono (by decide) (by decide)⟩
      ·
        show Steps p.tables e below (s₁.setTop (mkF m 38 #[.val (.int vc), .val (.long ((vc.toInt64) - (65 : Int64))), .second, .val (.long ((vc.toInt64) - (48 : Int64))), .second, .val (.int (0 : Int32)), .unset] [(.int (lcmpW ((vc.toInt64) - (48 : Int64)) (0 : Int64)))])) _
        refine XS.ifYes X0.here hx rfl (pc0 := 38) (pc' := 53) rfl (hb hby d3_38) rfl ((if0 _ _).trans (tlt (((lw_lt _ _).mpr hc4) : (lcmpW ((vc.toInt64) - (48 : Int64)) (0 : Int64)) < (0 : Int32))).1) (by decide) (by decide) ?_
        show Steps p.tables e below (s₁.setTop (mkF m 53 #[.val (.int vc), .val (.long ((vc.toInt64) - (65 : Int64))), .second, .val (.long ((vc.toInt64) - (48 : Int64))), .second, .val (.int (0 : Int32)), .unset] [])) _
        refine XS.iconst X0.here hx rfl (hb hby d3_53) ?_
        show Steps p.tables e below (s₁.setTop (mkF m 54 #[.val (.int vc), .val (.long ((vc.toInt64) - (65 : Int64))), .second, .val (.long ((vc.toInt64) - (48 : Int64))), .second, .val (.int (0 : Int32)), .unset] [(.int (0 : Int32))])) _
        refine XS.istore X0.here hx rfl (hb hby d3_54) rfl (l' := #[.val (.int vc), .val (.long ((vc.toInt64) - (65 : Int64))), .second, .val (.long ((vc.toInt64) - (48 : Int64))), .second, .val (.int (0 : Int32)), .val (.int (0 : Int32))]) rfl ?_
        show Steps p.tables e below (s₁.setTop (mkF m 56 #[.val (.int vc), .val (.long ((vc.toInt64) - (65 : Int64))), .second, .val (.long ((vc.toInt64) - (48 : Int64))), .second, .val (.int (0 : Int32)), .val (.int (0 : Int32))] [])) _
        refine XS.iload X0.here hx rfl (hb hby d3_56) rfl ?_
        show Steps p.tables e below (s₁.setTop (mkF m 58 #[.val (.int vc), .val (.long ((vc.toInt64) - (65 : Int64))), .second, .val (.long ((vc.toInt64) - (48 : Int64))), .second, .val (.int (0 : Int32)), .val (.int (0 : Int32))] [(.int (0 : Int32))])) _
        refine XS.ifNo X0.here hx rfl (hb hby d3_58) rfl ((if0 _ _).trans (teq ((by decide) : (0 : Int32) = (0 : Int32))).2) ?_
        show Steps p.tables e below (s₁.setTop (mkF m 61 #[.val (.int vc), .val (.long ((vc.toInt64) - (65 : Int64))), .second, .val (.long ((vc.toInt64) - (48 : Int64))), .second, .val (.int (0 : Int32)), .val (.int (0 : Int32))] [])) _
        refine XS.iload X0.here hx rfl (hb hby d3_61) rfl ?_
        show Steps p.tables e below (s₁.setTop (mkF m 63 #[.val (.int vc), .val (.long ((vc.toInt64) - (65 : Int64))), .second, .val (.long ((vc.toInt64) - (48 : Int64))), .second, .val (.int (0 : Int32)), .val (.int (0 : Int32))] [(.int (0 : Int32))])) _
        refine XS.ifYes X0.here hx rfl (pc0 := 63) (pc' := 70) rfl (hb hby d3_63) rfl ((if0 _ _).trans (teq ((by decide) : (0 : Int32) = (0 : Int32))).1) (by decide) (by decide) ?_
        show Steps p.tables e below (s₁.setTop (mkF m 70 #[.val (.int vc), .val (.long ((vc.toInt64) - (65 : Int64))), .second, .val (.long ((vc.toInt64) - (48 : Int64))), .second, .val (.int (0 : Int32)), .val (.int (0 : Int32))] [])) _
        refine XS.iconst X0.here hx rfl (hb hby d3_70) ?_
        show Steps p.tables e below (s₁.setTop (mkF m 71 #[.val (.int vc), .val (.long ((vc.toInt64) - (65 : Int64))), .second, .val (.long ((vc.toInt64) - (48 : Int64))), .second, .val (.int (0 : Int32)), .val (.int (0 : Int32))] [(.int (0 : Int32))])) _
        exact retN X0 hx (t := .boolean) Bd.returns (by simp) (hb hby d3_71) hr
      ·
        show Q3 Z vc h0 n0 _ s₁.heap _
        rw [e0]
        have hv : (0 : Int32) = (own_ref vc) := by rw [own_ref, if_pos hc2, if_pos hc4]
        exact ⟨(congrArg (fun z => some (Value.int z)) hv), N0, rfl⟩
    ·
      have pre5 : ∀ t, Steps p.tables e below (s₁.setTop (mkF m 46 #[.val (.int vc), .val (.long ((vc.toInt64) - (65 : Int64))), .second, .val (.long ((vc.toInt64) - (48 : Int64))), .second, .val (.int (0 : Int32)), .unset] [(.int (lcmpW ((vc.toInt64) - (48 : Int64)) (9 : Int64)))])) t → Steps p.tables e below (s₁.setTop (entryFrame m #[(.int vc)] 7)) t := by
        intro t kt
        refine pre3 t ?_
        show Steps p.tables e below (s₁.setTop (mkF m 38 #[.val (.int vc), .val (.long ((vc.toInt64) - (65 : Int64))), .second, .val (.long ((vc.toInt64) - (48 : Int64))), .second, .val (.int (0 : Int32)), .unset] [(.int (lcmpW ((vc.toInt64) - (48 : Int64)) (0 : Int64)))])) _
        refine XS.ifNo X0.here hx rfl (hb hby d3_38) rfl ((if0 _ _).trans (flt ((fun q => hc4 ((lw_lt _ _).mp q)) : ¬ ((lcmpW ((vc.toInt64) - (48 : Int64)) (0 : Int64)) < (0 : Int32)))).1) ?_
        show Steps p.tables e below (s₁.setTop (mkF m 41 #[.val (.int vc), .val (.long ((vc.toInt64) - (65 : Int64))), .second, .val (.long ((vc.toInt64) - (48 : Int64))), .second, .val (.int (0 : Int32)), .unset] [])) _
        refine XS.lloadN X0.here hx rfl (hb hby d3_41) rfl ?_
        show Steps p.tables e below (s₁.setTop (mkF m 42 #[.val (.int vc), .val (.long ((vc.toInt64) - (65 : Int64))), .second, .val (.long ((vc.toInt64) - (48 : Int64))), .second, .val (.int (0 : Int32)), .unset] [(.long ((vc.toInt64) - (48 : Int64)))])) _
        refine X0.ldc2J hx hown (mvT hZ (hw _ (List.mem_of_getElem? (i := 13) rfl))) (g := (mkF m 42 #[.val (.int vc), .val (.long ((vc.toInt64) - (65 : Int64))), .second, .val (.long ((vc.toInt64) - (48 : Int64))), .second, .val (.int (0 : Int32)), .unset] [(.long ((vc.toInt64) - (48 : Int64)))])) rfl (hb hby d3_42) ?_
        show Steps p.tables e below (s₁.setTop (mkF m 45 #[.val (.int vc), .val (.long ((vc.toInt64) - (65 : Int64))), .second, .val (.long ((vc.toInt64) - (48 : Int64))), .second, .val (.int (0 : Int32)), .unset] [(.long (9 : Int64)), (.long ((vc.toInt64) - (48 : Int64)))])) _
        refine XS.lcmp X0.here hx rfl (hb hby d3_45) rfl ?_
        exact kt
      by_cases hc6 : (9 : Int64) < ((vc.toInt64) - (48 : Int64))
      ·
        obtain ⟨fs, hr, hrun, hended, hW, hsame⟩ := X0.leave (v := some (.int (0 : Int32))) (fun h => by rw [Bd.returns] at h; cases h)
        refine ⟨_, _, pre5 _ ?_, hrun, hended, _, _, rfl, ?_, ⟨_, rfl⟩, hW, hsame.mono (by decide) (by decide)⟩
        ·
          show Steps p.tables e below (s₁.setTop (mkF m 46 #[.val (.int vc), .val (.long ((vc.toInt64) - (65 : Int64))), .second, .val (.long ((vc.toInt64) - (48 : Int64))), .second, .val (.int (0 : Int32)), .unset] [(.int (lcmpW ((vc.toInt64) - (48 : Int64)) (9 : Int64)))])) _
          refine XS.ifYes X0.here hx rfl (pc0 := 46) (pc' := 53) rfl (hb hby d3_46) rfl ((if0 _ _).trans (tlt (((lw_gt _ _).mpr hc6) : (0 : Int32) < (lcmpW ((vc.toInt64) - (48 : Int64)) (9 : Int64)))).2.2.1) (by decide) (by decide) ?_
          show Steps p.tables e below (s₁.setTop (mkF m 53 #[.val (.int vc), .val (.long ((vc.toInt64) - (65 : Int64))), .second, .val (.long ((vc.toInt64) - (48 : Int64))), .second, .val (.int (0 : Int32)), .unset] [])) _
          refine XS.iconst X0.here hx rfl (hb hby d3_53) ?_
          show Steps p.tables e below (s₁.setTop (mkF m 54 #[.val (.int vc), .val (.long ((vc.toInt64) - (65 : Int64))), .second, .val (.long ((vc.toInt64) - (48 : Int64))), .second, .val (.int (0 : Int32)), .unset] [(.int (0 : Int32))])) _
          refine XS.istore X0.here hx rfl (hb hby d3_54) rfl (l' := #[.val (.int vc), .val (.long ((vc.toInt64) - (65 : Int64))), .second, .val (.long ((vc.toInt64) - (48 : Int64))), .second, .val (.int (0 : Int32)), .val (.int (0 : Int32))]) rfl ?_
          show Steps p.tables e below (s₁.setTop (mkF m 56 #[.val (.int vc), .val (.long ((vc.toInt64) - (65 : Int64))), .second, .val (.long ((vc.toInt64) - (48 : Int64))), .second, .val (.int (0 : Int32)), .val (.int (0 : Int32))] [])) _
          refine XS.iload X0.here hx rfl (hb hby d3_56) rfl ?_
          show Steps p.tables e below (s₁.setTop (mkF m 58 #[.val (.int vc), .val (.long ((vc.toInt64) - (65 : Int64))), .second, .val (.long ((vc.toInt64) - (48 : Int64))), .second, .val (.int (0 : Int32)), .val (.int (0 : Int32))] [(.int (0 : Int32))])) _
          refine XS.ifNo X0.here hx rfl (hb hby d3_58) rfl ((if0 _ _).trans (teq ((by decide) : (0 : Int32) = (0 : Int32))).2) ?_
          show Steps p.tables e below (s₁.setTop (mkF m 61 #[.val (.int vc), .val (.long ((vc.toInt64) - (65 : Int64))), .second, .val (.long ((vc.toInt64) - (48 : Int64))), .second, .val (.int (0 : Int32)), .val (.int (0 : Int32))] [])) _
          refine XS.iload X0.here hx rfl (hb hby d3_61) rfl ?_
          show Steps p.tables e below (s₁.setTop (mkF m 63 #[.val (.int vc), .val (.long ((vc.toInt64) - (65 : Int64))), .second, .val (.long ((vc.toInt64) - (48 : Int64))), .second, .val (.int (0 : Int32)), .val (.int (0 : Int32))] [(.int (0 : Int32))])) _
          refine XS.ifYes X0.here hx rfl (pc0 := 63) (pc' := 70) rfl (hb hby d3_63) rfl ((if0 _ _).trans (teq ((by decide) : (0 : Int32) = (0 : Int32))).1) (by decide) (by decide) ?_
          show Steps p.tables e below (s₁.setTop (mkF m 70 #[.val (.int vc), .val (.long ((vc.toInt64) - (65 : Int64))), .second, .val (.long ((vc.toInt64) - (48 : Int64))), .second, .val (.int (0 : Int32)), .val (.int (0 : Int32))] [])) _
          refine XS.iconst X0.here hx rfl (hb hby d3_70) ?_
          show Steps p.tables e below (s₁.setTop (mkF m 71 #[.val (.int vc), .val (.long ((vc.toInt64) - (65 : Int64))), .second, .val (.long ((vc.toInt64) - (48 : Int64))), .second, .val (.int (0 : Int32)), .val (.int (0 : Int32))] [(.int (0 : Int32))])) _
          exact retN X0 hx (t := .boolean) Bd.returns (by simp) (hb hby d3_71) hr
        ·
          show Q3 Z vc h0 n0 _ s₁.heap _
          rw [e0]
          have hv : (0 : Int32) = (own_ref vc) := by rw [own_ref, if_pos hc2, if_neg hc4, if_pos hc6]
          exact ⟨(congrArg (fun z => some (Value.int z)) hv), N0, rfl⟩
      ·
        obtain ⟨fs, hr, hrun, hended, hW, hsame⟩ := X0.leave (v := some (.int (1 : Int32))) (fun h => by rw [Bd.returns] at h; cases h)
        refine ⟨_, _, pre5 _ ?_, hrun, hended, _, _, rfl, ?_, ⟨_, rfl⟩, hW, hsame.mono (by decide) (by decide)⟩
        ·
          show Steps p.tables e below (s₁.setTop (mkF m 46 #[.val (.int vc), .val (.long ((vc.toInt64) - (65 : Int64))), .second, .val (.long ((vc.toInt64) - (48 : Int64))), .second, .val (.int (0 : Int32)), .unset] [(.int (lcmpW ((vc.toInt64) - (48 : Int64)) (9 : Int64)))])) _
          refine XS.ifNo X0.here hx rfl (hb hby d3_46) rfl ((if0 _ _).trans (flt ((fun q => hc6 ((lw_gt _ _).mp q)) : ¬ ((0 : Int32) < (lcmpW ((vc.toInt64) - (48 : Int64)) (9 : Int64))))).2.2.1) ?_
          show Steps p.tables e below (s₁.setTop (mkF m 49 #[.val (.int vc), .val (.long ((vc.toInt64) - (65 : Int64))), .second, .val (.long ((vc.toInt64) - (48 : Int64))), .second, .val (.int (0 : Int32)), .unset] [])) _
          refine XS.iconst X0.here hx rfl (hb hby d3_49) ?_
          show Steps p.tables e below (s₁.setTop (mkF m 50 #[.val (.int vc), .val (.long ((vc.toInt64) - (65 : Int64))), .second, .val (.long ((vc.toInt64) - (48 : Int64))), .second, .val (.int (0 : Int32)), .unset] [(.int (1 : Int32))])) _
          refine XS.goto X0.here hx rfl (pc0 := 50) (pc' := 54) rfl (hb hby d3_50) (by decide) (by decide) ?_
          show Steps p.tables e below (s₁.setTop (mkF m 54 #[.val (.int vc), .val (.long ((vc.toInt64) - (65 : Int64))), .second, .val (.long ((vc.toInt64) - (48 : Int64))), .second, .val (.int (0 : Int32)), .unset] [(.int (1 : Int32))])) _
          refine XS.istore X0.here hx rfl (hb hby d3_54) rfl (l' := #[.val (.int vc), .val (.long ((vc.toInt64) - (65 : Int64))), .second, .val (.long ((vc.toInt64) - (48 : Int64))), .second, .val (.int (0 : Int32)), .val (.int (1 : Int32))]) rfl ?_
          show Steps p.tables e below (s₁.setTop (mkF m 56 #[.val (.int vc), .val (.long ((vc.toInt64) - (65 : Int64))), .second, .val (.long ((vc.toInt64) - (48 : Int64))), .second, .val (.int (0 : Int32)), .val (.int (1 : Int32))] [])) _
          refine XS.iload X0.here hx rfl (hb hby d3_56) rfl ?_
          show Steps p.tables e below (s₁.setTop (mkF m 58 #[.val (.int vc), .val (.long ((vc.toInt64) - (65 : Int64))), .second, .val (.long ((vc.toInt64) - (48 : Int64))), .second, .val (.int (0 : Int32)), .val (.int (1 : Int32))] [(.int (0 : Int32))])) _
          refine XS.ifNo X0.here hx rfl (hb hby d3_58) rfl ((if0 _ _).trans (teq ((by decide) : (0 : Int32) = (0 : Int32))).2) ?_
          show Steps p.tables e below (s₁.setTop (mkF m 61 #[.val (.int vc), .val (.long ((vc.toInt64) - (65 : Int64))), .second, .val (.long ((vc.toInt64) - (48 : Int64))), .second, .val (.int (0 : Int32)), .val (.int (1 : Int32))] [])) _
          refine XS.iload X0.here hx rfl (hb hby d3_61) rfl ?_
          show Steps p.tables e below (s₁.setTop (mkF m 63 #[.val (.int vc), .val (.long ((vc.toInt64) - (65 : Int64))), .second, .val (.long ((vc.toInt64) - (48 : Int64))), .second, .val (.int (0 : Int32)), .val (.int (1 : Int32))] [(.int (1 : Int32))])) _
          refine XS.ifNo X0.here hx rfl (hb hby d3_63) rfl ((if0 _ _).trans (feq ((by decide) : ¬ ((1 : Int32) = (0 : Int32)))).1) ?_
          show Steps p.tables e below (s₁.setTop (mkF m 66 #[.val (.int vc), .val (.long ((vc.toInt64) - (65 : Int64))), .second, .val (.long ((vc.toInt64) - (48 : Int64))), .second, .val (.int (0 : Int32)), .val (.int (1 : Int32))] [])) _
          refine XS.iconst X0.here hx rfl (hb hby d3_66) ?_
          show Steps p.tables e below (s₁.setTop (mkF m 67 #[.val (.int vc), .val (.long ((vc.toInt64) - (65 : Int64))), .second, .val (.long ((vc.toInt64) - (48 : Int64))), .second, .val (.int (0 : Int32)), .val (.int (1 : Int32))] [(.int (1 : Int32))])) _
          refine XS.goto X0.here hx rfl (pc0 := 67) (pc' := 71) rfl (hb hby d3_67) (by decide) (by decide) ?_
          show Steps p.tables e below (s₁.setTop (mkF m 71 #[.val (.int vc), .val (.long ((vc.toInt64) - (65 : Int64))), .second, .val (.long ((vc.toInt64) - (48 : Int64))), .second, .val (.int (0 : Int32)), .val (.int (1 : Int32))] [(.int (1 : Int32))])) _
          exact retN X0 hx (t := .boolean) Bd.returns (by simp) (hb hby d3_71) hr
        ·
          show Q3 Z vc h0 n0 _ s₁.heap _
          rw [e0]
          have hv : (1 : Int32) = (own_ref vc) := by rw [own_ref, if_pos hc2, if_neg hc4, if_neg hc6]
          exact ⟨(congrArg (fun z => some (Value.int z)) hv), N0, rfl⟩
  ·
    have pre7 : ∀ t, Steps p.tables e below (s₁.setTop (mkF m 25 #[.val (.int vc), .val (.long ((vc.toInt64) - (65 : Int64))), .second, .val (.long ((vc.toInt64) - (48 : Int64))), .second, .unset, .unset] [(.int (lcmpW ((vc.toInt64) - (65 : Int64)) (25 : Int64)))])) t → Steps p.tables e below (s₁.setTop (entryFrame m #[(.int vc)] 7)) t := by
      intro t kt
      refine pre1 t ?_
      show Steps p.tables e below (s₁.setTop (mkF m 17 #[.val (.int vc), .val (.long ((vc.toInt64) - (65 : Int64))), .second, .val (.long ((vc.toInt64) - (48 : Int64))), .second, .unset, .unset] [(.int (lcmpW ((vc.toInt64) - (65 : Int64)) (0 : Int64)))])) _
      refine XS.ifNo X0.here hx rfl (hb hby d3_17) rfl ((if0 _ _).trans (flt ((fun q => hc2 ((lw_lt _ _).mp q)) : ¬ ((lcmpW ((vc.toInt64) - (65 : Int64)) (0 : Int64)) < (0 : Int32)))).1) ?_
      show Steps p.tables e below (s₁.setTop (mkF m 20 #[.val (.int vc), .val (.long ((vc.toInt64) - (65 : Int64))), .second, .val (.long ((vc.toInt64) - (48 : Int64))), .second, .unset, .unset] [])) _
      refine XS.lloadN X0.here hx rfl (hb hby d3_20) rfl ?_
      show Steps p.tables e below (s₁.setTop (mkF m 21 #[.val (.int vc), .val (.long ((vc.toInt64) - (65 : Int64))), .second, .val (.long ((vc.toInt64) - (48 : Int64))), .second, .unset, .unset] [(.long ((vc.toInt64) - (65 : Int64)))])) _
      refine X0.ldc2J hx hown (mvT hZ (hw _ (List.mem_of_getElem? (i := 14) rfl))) (g := (mkF m 21 #[.val (.int vc), .val (.long ((vc.toInt64) - (65 : Int64))), .second, .val (.long ((vc.toInt64) - (48 : Int64))), .second, .unset, .unset] [(.long ((vc.toInt64) - (65 : Int64)))])) rfl (hb hby d3_21) ?_
      show Steps p.tables e below (s₁.setTop (mkF m 24 #[.val (.int vc), .val (.long ((vc.toInt64) - (65 : Int64))), .second, .val (.long ((vc.toInt64) - (48 : Int64))), .second, .unset, .unset] [(.long (25 : Int64)), (.long ((vc.toInt64) - (65 : Int64)))])) _
      refine XS.lcmp X0.here hx rfl (hb hby d3_24) rfl ?_
      exact kt
    by_cases hc8 : (25 : Int64) < ((vc.toInt64) - (65 : Int64))
    ·
      have pre9 : ∀ t, Steps p.tables e below (s₁.setTop (mkF m 38 #[.val (.int vc), .val (.long ((vc.toInt64) - (65 : Int64))), .second, .val (.long ((vc.toInt64) - (48 : Int64))), .second, .val (.int (0 : Int32)), .unset] [(.int (lcmpW ((vc.toInt64) - (48 : Int64)) (0 : Int64)))])) t → Steps p.tables e below (s₁.setTop (entryFrame m #[(.int vc)] 7)) t := by
        intro t kt
        refine pre7 t ?_
        show Steps p.tables e below (s₁.setTop (mkF m 25 #[.val (.int vc), .val (.long ((vc.toInt64) - (65 : Int64))), .second, .val (.long ((vc.toInt64) - (48 : Int64))), .second, .unset, .unset] [(.int (lcmpW ((vc.toInt64) - (65 : Int64)) (25 : Int64)))])) _
        refine XS.ifYes X0.here hx rfl (pc0 := 25) (pc' := 32) rfl (hb hby d3_25) rfl ((if0 _ _).trans (tlt (((lw_gt _ _).mpr hc8) : (0 : Int32) < (lcmpW ((vc.toInt64) - (65 : Int64)) (25 : Int64)))).2.2.1) (by decide) (by decide) ?_
        show Steps p.tables e below (s₁.setTop (mkF m 32 #[.val (.int vc), .val (.long ((vc.toInt64) - (65 : Int64))), .second, .val (.long ((vc.toInt64) - (48 : Int64))), .second, .unset, .unset] [])) _
        refine XS.iconst X0.here hx rfl (hb hby d3_32) ?_
        show Steps p.tables e below (s₁.setTop (mkF m 33 #[.val (.int vc), .val (.long ((vc.toInt64) - (65 : Int64))), .second, .val (.long ((vc.toInt64) - (48 : Int64))), .second, .unset, .unset] [(.int (0 : Int32))])) _
        refine XS.istore X0.here hx rfl (hb hby d3_33) rfl (l' := #[.val (.int vc), .val (.long ((vc.toInt64) - (65 : Int64))), .second, .val (.long ((vc.toInt64) - (48 : Int64))), .second, .val (.int (0 : Int32)), .unset]) rfl ?_
        show Steps p.tables e below (s₁.setTop (mkF m 35 #[.val (.int vc), .val (.long ((vc.toInt64) - (65 : Int64))), .second, .val (.long ((vc.toInt64) - (48 : Int64))), .second, .val (.int (0 : Int32)), .unset] [])) _
        refine XS.lloadN X0.here hx rfl (hb hby d3_35) rfl ?_
        show Steps p.tables e below (s₁.setTop (mkF m 36 #[.val (.int vc), .val (.long ((vc.toInt64) - (65 : Int64))), .second, .val (.long ((vc.toInt64) - (48 : Int64))), .second, .val (.int (0 : Int32)), .unset] [(.long ((vc.toInt64) - (48 : Int64)))])) _
        refine XS.lconst X0.here hx rfl (hb hby d3_36) ?_
        show Steps p.tables e below (s₁.setTop (mkF m 37 #[.val (.int vc), .val (.long ((vc.toInt64) - (65 : Int64))), .second, .val (.long ((vc.toInt64) - (48 : Int64))), .second, .val (.int (0 : Int32)), .unset] [(.long (0 : Int64)), (.long ((vc.toInt64) - (48 : Int64)))])) _
        refine XS.lcmp X0.here hx rfl (hb hby d3_37) rfl ?_
        exact kt
      by_cases hc10 : ((vc.toInt64) - (48 : Int64)) < (0 : Int64)
      ·
        obtain ⟨fs, hr, hrun, hended, hW, hsame⟩ := X0.leave (v := some (.int (0 : Int32))) (fun h => by rw [Bd.returns] at h; cases h)
        refine ⟨_, _, pre9 _ ?_, hrun, hended, _, _, rfl, ?_, ⟨_, rfl⟩, hW, hsame.mono (by decide) (by decide)⟩
        ·
          show Steps p.tables e below (s₁.setTop (mkF m 38 #[.val (.int vc), .val (.long ((vc.toInt64) - (65 : Int64))), .second, .val (.long ((vc.toInt64) - (48 : Int64))), .second, .val (.int (0 : Int32)), .unset] [(.int (lcmpW ((vc.toInt64) - (48 : Int64)) (0 : Int64)))])) _
          refine XS.ifYes X0.here hx rfl (pc0 := 38) (pc' := 53) rfl (hb hby d3_38) rfl ((if0 _ _).trans (tlt (((lw_lt _ _).mpr hc10) : (lcmpW ((vc.toInt64) - (48 : Int64)) (0 : Int64)) < (0 : Int32))).1) (by decide) (by decide) ?_
          show Steps p.tables e below (s₁.setTop (mkF m 53 #[.val (.int vc), .val (.long ((vc.toInt64) - (65 : Int64))), .second, .val (.long ((vc.toInt64) - (48 : Int64))), .second, .val (.int (0 : Int32)), .unset] [])) _
          refine XS.iconst X0.here hx rfl (hb hby d3_53) ?_
          show Steps p.tables e below (s₁.setTop (mkF m 54 #[.val (.int vc), .val (.long ((vc.toInt64) - (65 : Int64))), .second, .val (.long ((vc.toInt64) - (48 : Int64))), .second, .val (.int (0 : Int32)), .unset] [(.int (0 : Int32))])) _
          refine XS.istore X0.here hx rfl (hb hby d3_54) rfl (l' := #[.val (.int vc), .val (.long ((vc.toInt64) - (65 : Int64))), .second, .val (.long ((vc.toInt64) - (48 : Int64))), .second, .val (.int (0 : Int32)), .val (.int (0 : Int32))]) rfl ?_
          show Steps p.tables e below (s₁.setTop (mkF m 56 #[.val (.int vc), .val (.long ((vc.toInt64) - (65 : Int64))), .second, .val (.long ((vc.toInt64) - (48 : Int64))), .second, .val (.int (0 : Int32)), .val (.int (0 : Int32))] [])) _
          refine XS.iload X0.here hx rfl (hb hby d3_56) rfl ?_
          show Steps p.tables e below (s₁.setTop (mkF m 58 #[.val (.int vc), .val (.long ((vc.toInt64) - (65 : Int64))), .second, .val (.long ((vc.toInt64) - (48 : Int64))), .second, .val (.int (0 : Int32)), .val (.int (0 : Int32))] [(.int (0 : Int32))])) _
          refine XS.ifNo X0.here hx rfl (hb hby d3_58) rfl ((if0 _ _).trans (teq ((by decide) : (0 : Int32) = (0 : Int32))).2) ?_
          show Steps p.tables e below (s₁.setTop (mkF m 61 #[.val (.int vc), .val (.long ((vc.toInt64) - (65 : Int64))), .second, .val (.long ((vc.toInt64) - (48 : Int64))), .second, .val (.int (0 : Int32)), .val (.int (0 : Int32))] [])) _
          refine XS.iload X0.here hx rfl (hb hby d3_61) rfl ?_
          show Steps p.tables e below (s₁.setTop (mkF m 63 #[.val (.int vc), .val (.long ((vc.toInt64) - (65 : Int64))), .second, .val (.long ((vc.toInt64) - (48 : Int64))), .second, .val (.int (0 : Int32)), .val (.int (0 : Int32))] [(.int (0 : Int32))])) _
          refine XS.ifYes X0.here hx rfl (pc0 := 63) (pc' := 70) rfl (hb hby d3_63) rfl ((if0 _ _).trans (teq ((by decide) : (0 : Int32) = (0 : Int32))).1) (by decide) (by decide) ?_
          show Steps p.tables e below (s₁.setTop (mkF m 70 #[.val (.int vc), .val (.long ((vc.toInt64) - (65 : Int64))), .second, .val (.long ((vc.toInt64) - (48 : Int64))), .second, .val (.int (0 : Int32)), .val (.int (0 : Int32))] [])) _
          refine XS.iconst X0.here hx rfl (hb hby d3_70) ?_
          show Steps p.tables e below (s₁.setTop (mkF m 71 #[.val (.int vc), .val (.long ((vc.toInt64) - (65 : Int64))), .second, .val (.long ((vc.toInt64) - (48 : Int64))), .second, .val (.int (0 : Int32)), .val (.int (0 : Int32))] [(.int (0 : Int32))])) _
          exact retN X0 hx (t := .boolean) Bd.returns (by simp) (hb hby d3_71) hr
        ·
          show Q3 Z vc h0 n0 _ s₁.heap _
          rw [e0]
          have hv : (0 : Int32) = (own_ref vc) := by rw [own_ref, if_neg hc2, if_pos hc8, if_pos hc10]
          exact ⟨(congrArg (fun z => some (Value.int z)) hv), N0, rfl⟩
      ·
        have pre11 : ∀ t, Steps p.tables e below (s₁.setTop (mkF m 46 #[.val (.int vc), .val (.long ((vc.toInt64) - (65 : Int64))), .second, .val (.long ((vc.toInt64) - (48 : Int64))), .second, .val (.int (0 : Int32)), .unset] [(.int (lcmpW ((vc.toInt64) - (48 : Int64)) (9 : Int64)))])) t → Steps p.tables e below (s₁.setTop (entryFrame m #[(.int vc)] 7)) t := by
          intro t kt
          refine pre9 t ?_
          show Steps p.tables e below (s₁.setTop (mkF m 38 #[.val (.int vc), .val (.long ((vc.toInt64) - (65 : Int64))), .second, .val (.long ((vc.toInt64) - (48 : Int64))), .second, .val (.int (0 : Int32)), .unset] [(.int (lcmpW ((vc.toInt64) - (48 : Int64)) (0 : Int64)))])) _
          refine XS.ifNo X0.here hx rfl (hb hby d3_38) rfl ((if0 _ _).trans (flt ((fun q => hc10 ((lw_lt _ _).mp q)) : ¬ ((lcmpW ((vc.toInt64) - (48 : Int64)) (0 : Int64)) < (0 : Int32)))).1) ?_
          show Steps p.tables e below (s₁.setTop (mkF m 41 #[.val (.int vc), .val (.long ((vc.toInt64) - (65 : Int64))), .second, .val (.long ((vc.toInt64) - (48 : Int64))), .second, .val (.int (0 : Int32)), .unset] [])) _
          refine XS.lloadN X0.here hx rfl (hb hby d3_41) rfl ?_
          show Steps p.tables e below (s₁.setTop (mkF m 42 #[.val (.int vc), .val (.long ((vc.toInt64) - (65 : Int64))), .second, .val (.long ((vc.toInt64) - (48 : Int64))), .second, .val (.int (0 : Int32)), .unset] [(.long ((vc.toInt64) - (48 : Int64)))])) _
          refine X0.ldc2J hx hown (mvT hZ (hw _ (List.mem_of_getElem? (i := 13) rfl))) (g := (mkF m 42 #[.val (.int vc), .val (.long ((vc.toInt64) - (65 : Int64))), .second, .val (.long ((vc.toInt64) - (48 : Int64))), .second, .val (.int (0 : Int32)), .unset] [(.long ((vc.toInt64) - (48 : Int64)))])) rfl (hb hby d3_42) ?_
          show Steps p.tables e below (s₁.setTop (mkF m 45 #[.val (.int vc), .val (.long ((vc.toInt64) - (65 : Int64))), .second, .val (.long ((vc.toInt64) - (48 : Int64))), .second, .val (.int (0 : Int32)), .unset] [(.long (9 : Int64)), (.long ((vc.toInt64) - (48 : Int64)))])) _
          refine XS.lcmp X0.here hx rfl (hb hby d3_45) rfl ?_
          exact kt
        by_cases hc12 : (9 : Int64) < ((vc.toInt64) - (48 : Int64))
        ·
          obtain ⟨fs, hr, hrun, hended, hW, hsame⟩ := X0.leave (v := some (.int (0 : Int32))) (fun h => by rw [Bd.returns] at h; cases h)
          refine ⟨_, _, pre11 _ ?_, hrun, hended, _, _, rfl, ?_, ⟨_, rfl⟩, hW, hsame.mono (by decide) (by decide)⟩
          ·
            show Steps p.tables e below (s₁.setTop (mkF m 46 #[.val (.int vc), .val (.long ((vc.toInt64) - (65 : Int64))), .second, .val (.long ((vc.toInt64) - (48 : Int64))), .second, .val (.int (0 : Int32)), .unset] [(.int (lcmpW ((vc.toInt64) - (48 : Int64)) (9 : Int64)))])) _
            refine XS.ifYes X0.here hx rfl (pc0 := 46) (pc' := 53) rfl (hb hby d3_46) rfl ((if0 _ _).trans (tlt (((lw_gt _ _).mpr hc12) : (0 : Int32) < (lcmpW ((vc.toInt64) - (48 : Int64)) (9 : Int64)))).2.2.1) (by decide) (by decide) ?_
            show Steps p.tables e below (s₁.setTop (mkF m 53 #[.val (.int vc), .val (.long ((vc.toInt64) - (65 : Int64))), .second, .val (.long ((vc.toInt64) - (48 : Int64))), .second, .val (.int (0 : Int32)), .unset] [])) _
            refine XS.iconst X0.here hx rfl (hb hby d3_53) ?_
            show Steps p.tables e below (s₁.setTop (mkF m 54 #[.val (.int vc), .val (.long ((vc.toInt64) - (65 : Int64))), .second, .val (.long ((vc.toInt64) - (48 : Int64))), .second, .val (.int (0 : Int32)), .unset] [(.int (0 : Int32))])) _
            refine XS.istore X0.here hx rfl (hb hby d3_54) rfl (l' := #[.val (.int vc), .val (.long ((vc.toInt64) - (65 : Int64))), .second, .val (.long ((vc.toInt64) - (48 : Int64))), .second, .val (.int (0 : Int32)), .val (.int (0 : Int32))]) rfl ?_
            show Steps p.tables e below (s₁.setTop (mkF m 56 #[.val (.int vc), .val (.long ((vc.toInt64) - (65 : Int64))), .second, .val (.long ((vc.toInt64) - (48 : Int64))), .second, .val (.int (0 : Int32)), .val (.int (0 : Int32))] [])) _
            refine XS.iload X0.here hx rfl (hb hby d3_56) rfl ?_
            show Steps p.tables e below (s₁.setTop (mkF m 58 #[.val (.int vc), .val (.long ((vc.toInt64) - (65 : Int64))), .second, .val (.long ((vc.toInt64) - (48 : Int64))), .second, .val (.int (0 : Int32)), .val (.int (0 : Int32))] [(.int (0 : Int32))])) _
            refine XS.ifNo X0.here hx rfl (hb hby d3_58) rfl ((if0 _ _).trans (teq ((by decide) : (0 : Int32) = (0 : Int32))).2) ?_
            show Steps p.tables e below (s₁.setTop (mkF m 61 #[.val (.int vc), .val (.long ((vc.toInt64) - (65 : Int64))), .second, .val (.long ((vc.toInt64) - (48 : Int64))), .second, .val (.int (0 : Int32)), .val (.int (0 : Int32))] [])) _
            refine XS.iload X0.here hx rfl (hb hby d3_61) rfl ?_
            show Steps p.tables e below (s₁.setTop (mkF m 63 #[.val (.int vc), .val (.long ((vc.toInt64) - (65 : Int64))), .second, .val (.long ((vc.toInt64) - (48 : Int64))), .second, .val (.int (0 : Int32)), .val (.int (0 : Int32))] [(.int (0 : Int32))])) _
            refine XS.ifYes X0.here hx rfl (pc0 := 63) (pc' := 70) rfl (hb hby d3_63) rfl ((if0 _ _).trans (teq ((by decide) : (0 : Int32) = (0 : Int32))).1) (by decide) (by decide) ?_
            show Steps p.tables e below (s₁.setTop (mkF m 70 #[.val (.int vc), .val (.long ((vc.toInt64) - (65 : Int64))), .second, .val (.long ((vc.toInt64) - (48 : Int64))), .second, .val (.int (0 : Int32)), .val (.int (0 : Int32))] [])) _
            refine XS.iconst X0.here hx rfl (hb hby d3_70) ?_
            show Steps p.tables e below (s₁.setTop (mkF m 71 #[.val (.int vc), .val (.long ((vc.toInt64) - (65 : Int64))), .second, .val (.long ((vc.toInt64) - (48 : Int64))), .second, .val (.int (0 : Int32)), .val (.int (0 : Int32))] [(.int (0 : Int32))])) _
            exact retN X0 hx (t := .boolean) Bd.returns (by simp) (hb hby d3_71) hr
          ·
            show Q3 Z vc h0 n0 _ s₁.heap _
            rw [e0]
            have hv : (0 : Int32) = (own_ref vc) := by rw [own_ref, if_neg hc2, if_pos hc8, if_neg hc10, if_pos hc12]
            exact ⟨(congrArg (fun z => some (Value.int z)) hv), N0, rfl⟩
        ·
          obtain ⟨fs, hr, hrun, hended, hW, hsame⟩ := X0.leave (v := some (.int (1 : Int32))) (fun h => by rw [Bd.returns] at h; cases h)
          refine ⟨_, _, pre11 _ ?_, hrun, hended, _, _, rfl, ?_, ⟨_, rfl⟩, hW, hsame.mono (by decide) (by decide)⟩
          ·
            show Steps p.tables e below (s₁.setTop (mkF m 46 #[.val (.int vc), .val (.long ((vc.toInt64) - (65 : Int64))), .second, .val (.long ((vc.toInt64) - (48 : Int64))), .second, .val (.int (0 : Int32)), .unset] [(.int (lcmpW ((vc.toInt64) - (48 : Int64)) (9 : Int64)))])) _
            refine XS.ifNo X0.here hx rfl (hb hby d3_46) rfl ((if0 _ _).trans (flt ((fun q => hc12 ((lw_gt _ _).mp q)) : ¬ ((0 : Int32) < (lcmpW ((vc.toInt64) - (48 : Int64)) (9 : Int64))))).2.2.1) ?_
            show Steps p.tables e below (s₁.setTop (mkF m 49 #[.val (.int vc), .val (.long ((vc.toInt64) - (65 : Int64))), .second, .val (.long ((vc.toInt64) - (48 : Int64))), .second, .val (.int (0 : Int32)), .unset] [])) _
            refine XS.iconst X0.here hx rfl (hb hby d3_49) ?_
            show Steps p.tables e below (s₁.setTop (mkF m 50 #[.val (.int vc), .val (.long ((vc.toInt64) - (65 : Int64))), .second, .val (.long ((vc.toInt64) - (48 : Int64))), .second, .val (.int (0 : Int32)), .unset] [(.int (1 : Int32))])) _
            refine XS.goto X0.here hx rfl (pc0 := 50) (pc' := 54) rfl (hb hby d3_50) (by decide) (by decide) ?_
            show Steps p.tables e below (s₁.setTop (mkF m 54 #[.val (.int vc), .val (.long ((vc.toInt64) - (65 : Int64))), .second, .val (.long ((vc.toInt64) - (48 : Int64))), .second, .val (.int (0 : Int32)), .unset] [(.int (1 : Int32))])) _
            refine XS.istore X0.here hx rfl (hb hby d3_54) rfl (l' := #[.val (.int vc), .val (.long ((vc.toInt64) - (65 : Int64))), .second, .val (.long ((vc.toInt64) - (48 : Int64))), .second, .val (.int (0 : Int32)), .val (.int (1 : Int32))]) rfl ?_
            show Steps p.tables e below (s₁.setTop (mkF m 56 #[.val (.int vc), .val (.long ((vc.toInt64) - (65 : Int64))), .second, .val (.long ((vc.toInt64) - (48 : Int64))), .second, .val (.int (0 : Int32)), .val (.int (1 : Int32))] [])) _
            refine XS.iload X0.here hx rfl (hb hby d3_56) rfl ?_
            show Steps p.tables e below (s₁.setTop (mkF m 58 #[.val (.int vc), .val (.long ((vc.toInt64) - (65 : Int64))), .second, .val (.long ((vc.toInt64) - (48 : Int64))), .second, .val (.int (0 : Int32)), .val (.int (1 : Int32))] [(.int (0 : Int32))])) _
            refine XS.ifNo X0.here hx rfl (hb hby d3_58) rfl ((if0 _ _).trans (teq ((by decide) : (0 : Int32) = (0 : Int32))).2) ?_
            show Steps p.tables e below (s₁.setTop (mkF m 61 #[.val (.int vc), .val (.long ((vc.toInt64) - (65 : Int64))), .second, .val (.long ((vc.toInt64) - (48 : Int64))), .second, .val (.int (0 : Int32)), .val (.int (1 : Int32))] [])) _
            refine XS.iload X0.here hx rfl (hb hby d3_61) rfl ?_
            show Steps p.tables e below (s₁.setTop (mkF m 63 #[.val (.int vc), .val (.long ((vc.toInt64) - (65 : Int64))), .second, .val (.long ((vc.toInt64) - (48 : Int64))), .second, .val (.int (0 : Int32)), .val (.int (1 : Int32))] [(.int (1 : Int32))])) _
            refine XS.ifNo X0.here hx rfl (hb hby d3_63) rfl ((if0 _ _).trans (feq ((by decide) : ¬ ((1 : Int32) = (0 : Int32)))).1) ?_
            show Steps p.tables e below (s₁.setTop (mkF m 66 #[.val (.int vc), .val (.long ((vc.toInt64) - (65 : Int64))), .second, .val (.long ((vc.toInt64) - (48 : Int64))), .second, .val (.int (0 : Int32)), .val (.int (1 : Int32))] [])) _
            refine XS.iconst X0.here hx rfl (hb hby d3_66) ?_
            show Steps p.tables e below (s₁.setTop (mkF m 67 #[.val (.int vc), .val (.long ((vc.toInt64) - (65 : Int64))), .second, .val (.long ((vc.toInt64) - (48 : Int64))), .second, .val (.int (0 : Int32)), .val (.int (1 : Int32))] [(.int (1 : Int32))])) _
            refine XS.goto X0.here hx rfl (pc0 := 67) (pc' := 71) rfl (hb hby d3_67) (by decide) (by decide) ?_
            show Steps p.tables e below (s₁.setTop (mkF m 71 #[.val (.int vc), .val (.long ((vc.toInt64) - (65 : Int64))), .second, .val (.long ((vc.toInt64) - (48 : Int64))), .second, .val (.int (0 : Int32)), .val (.int (1 : Int32))] [(.int (1 : Int32))])) _
            exact retN X0 hx (t := .boolean) Bd.returns (by simp) (hb hby d3_71) hr
          ·
            show Q3 Z vc h0 n0 _ s₁.heap _
            rw [e0]
            have hv : (1 : Int32) = (own_ref vc) := by rw [own_ref, if_neg hc2, if_pos hc8, if_neg hc10, if_neg hc12]
            exact ⟨(congrArg (fun z => some (Value.int z)) hv), N0, rfl⟩
    ·
      have pre13 : ∀ t, Steps p.tables e below (s₁.setTop (mkF m 38 #[.val (.int vc), .val (.long ((vc.toInt64) - (65 : Int64))), .second, .val (.long ((vc.toInt64) - (48 : Int64))), .second, .val (.int (1 : Int32)), .unset] [(.int (lcmpW ((vc.toInt64) - (48 : Int64)) (0 : Int64)))])) t → Steps p.tables e below (s₁.setTop (entryFrame m #[(.int vc)] 7)) t := by
        intro t kt
        refine pre7 t ?_
        show Steps p.tables e below (s₁.setTop (mkF m 25 #[.val (.int vc), .val (.long ((vc.toInt64) - (65 : Int64))), .second, .val (.long ((vc.toInt64) - (48 : Int64))), .second, .unset, .unset] [(.int (lcmpW ((vc.toInt64) - (65 : Int64)) (25 : Int64)))])) _
        refine XS.ifNo X0.here hx rfl (hb hby d3_25) rfl ((if0 _ _).trans (flt ((fun q => hc8 ((lw_gt _ _).mp q)) : ¬ ((0 : Int32) < (lcmpW ((vc.toInt64) - (65 : Int64)) (25 : Int64))))).2.2.1) ?_
        show Steps p.tables e below (s₁.setTop (mkF m 28 #[.val (.int vc), .val (.long ((vc.toInt64) - (65 : Int64))), .second, .val (.long ((vc.toInt64) - (48 : Int64))), .second, .unset, .unset] [])) _
        refine XS.iconst X0.here hx rfl (hb hby d3_28) ?_
        show Steps p.tables e below (s₁.setTop (mkF m 29 #[.val (.int vc), .val (.long ((vc.toInt64) - (65 : Int64))), .second, .val (.long ((vc.toInt64) - (48 : Int64))), .second, .unset, .unset] [(.int (1 : Int32))])) _
        refine XS.goto X0.here hx rfl (pc0 := 29) (pc' := 33) rfl (hb hby d3_29) (by decide) (by decide) ?_
        show Steps p.tables e below (s₁.setTop (mkF m 33 #[.val (.int vc), .val (.long ((vc.toInt64) - (65 : Int64))), .second, .val (.long ((vc.toInt64) - (48 : Int64))), .second, .unset, .unset] [(.int (1 : Int32))])) _
        refine XS.istore X0.here hx rfl (hb hby d3_33) rfl (l' := #[.val (.int vc), .val (.long ((vc.toInt64) - (65 : Int64))), .second, .val (.long ((vc.toInt64) - (48 : Int64))), .second, .val (.int (1 : Int32)), .unset]) rfl ?_
        show Steps p.tables e below (s₁.setTop (mkF m 35 #[.val (.int vc), .val (.long ((vc.toInt64) - (65 : Int64))), .second, .val (.long ((vc.toInt64) - (48 : Int64))), .second, .val (.int (1 : Int32)), .unset] [])) _
        refine XS.lloadN X0.here hx rfl (hb hby d3_35) rfl ?_
        show Steps p.tables e below (s₁.setTop (mkF m 36 #[.val (.int vc), .val (.long ((vc.toInt64) - (65 : Int64))), .second, .val (.long ((vc.toInt64) - (48 : Int64))), .second, .val (.int (1 : Int32)), .unset] [(.long ((vc.toInt64) - (48 : Int64)))])) _
        refine XS.lconst X0.here hx rfl (hb hby d3_36) ?_
        show Steps p.tables e below (s₁.setTop (mkF m 37 #[.val (.int vc), .val (.long ((vc.toInt64) - (65 : Int64))), .second, .val (.long ((vc.toInt64) - (48 : Int64))), .second, .val (.int (1 : Int32)), .unset] [(.long (0 : Int64)), (.long ((vc.toInt64) - (48 : Int64)))])) _
        refine XS.lcmp X0.here hx rfl (hb hby d3_37) rfl ?_
        exact kt
      by_cases hc14 : ((vc.toInt64) - (48 : Int64)) < (0 : Int64)
      ·
        obtain ⟨fs, hr, hrun, hended, hW, hsame⟩ := X0.leave (v := some (.int (1 : Int32))) (fun h => by rw [Bd.returns] at h; cases h)
        refine ⟨_, _, pre13 _ ?_, hrun, hended, _, _, rfl, ?_, ⟨_, rfl⟩, hW, hsame.mono (by decide) (by decide)⟩
        ·
          show Steps p.tables e below (s₁.setTop (mkF m 38 #[.val (.int vc), .val (.long ((vc.toInt64) - (65 : Int64))), .second, .val (.long ((vc.toInt64) - (48 : Int64))), .second, .val (.int (1 : Int32)), .unset] [(.int (lcmpW ((vc.toInt64) - (48 : Int64)) (0 : Int64)))])) _
          refine XS.ifYes X0.here hx rfl (pc0 := 38) (pc' := 53) rfl (hb hby d3_38) rfl ((if0 _ _).trans (tlt (((lw_lt _ _).mpr hc14) : (lcmpW ((vc.toInt64) - (48 : Int64)) (0 : Int64)) < (0 : Int32))).1) (by decide) (by decide) ?_
          show Steps p.tables e below (s₁.setTop (mkF m 53 #[.val (.int vc), .val (.long ((vc.toInt64) - (65 : Int64))), .second, .val (.long ((vc.toInt64) - (48 : Int64))), .second, .val (.int (1 : Int32)), .unset] [])) _
          refine XS.iconst X0.here hx rfl (hb hby d3_53) ?_
          show Steps p.tables e below (s₁.setTop (mkF m 54 #[.val (.int vc), .val (.long ((vc.toInt64) - (65 : Int64))), .second, .val (.long ((vc.toInt64) - (48 : Int64))), .second, .val (.int (1 : Int32)), .unset] [(.int (0 : Int32))])) _
          refine XS.istore X0.here hx rfl (hb hby d3_54) rfl (l' := #[.val (.int vc), .val (.long ((vc.toInt64) - (65 : Int64))), .second, .val (.long ((vc.toInt64) - (48 : Int64))), .second, .val (.int (1 : Int32)), .val (.int (0 : Int32))]) rfl ?_
          show Steps p.tables e below (s₁.setTop (mkF m 56 #[.val (.int vc), .val (.long ((vc.toInt64) - (65 : Int64))), .second, .val (.long ((vc.toInt64) - (48 : Int64))), .second, .val (.int (1 : Int32)), .val (.int (0 : Int32))] [])) _
          refine XS.iload X0.here hx rfl (hb hby d3_56) rfl ?_
          show Steps p.tables e below (s₁.setTop (mkF m 58 #[.val (.int vc), .val (.long ((vc.toInt64) - (65 : Int64))), .second, .val (.long ((vc.toInt64) - (48 : Int64))), .second, .val (.int (1 : Int32)), .val (.int (0 : Int32))] [(.int (1 : Int32))])) _
          refine XS.ifYes X0.here hx rfl (pc0 := 58) (pc' := 66) rfl (hb hby d3_58) rfl ((if0 _ _).trans (feq ((by decide) : ¬ ((1 : Int32) = (0 : Int32)))).2) (by decide) (by decide) ?_
          show Steps p.tables e below (s₁.setTop (mkF m 66 #[.val (.int vc), .val (.long ((vc.toInt64) - (65 : Int64))), .second, .val (.long ((vc.toInt64) - (48 : Int64))), .second, .val (.int (1 : Int32)), .val (.int (0 : Int32))] [])) _
          refine XS.iconst X0.here hx rfl (hb hby d3_66) ?_
          show Steps p.tables e below (s₁.setTop (mkF m 67 #[.val (.int vc), .val (.long ((vc.toInt64) - (65 : Int64))), .second, .val (.long ((vc.toInt64) - (48 : Int64))), .second, .val (.int (1 : Int32)), .val (.int (0 : Int32))] [(.int (1 : Int32))])) _
          refine XS.goto X0.here hx rfl (pc0 := 67) (pc' := 71) rfl (hb hby d3_67) (by decide) (by decide) ?_
          show Steps p.tables e below (s₁.setTop (mkF m 71 #[.val (.int vc), .val (.long ((vc.toInt64) - (65 : Int64))), .second, .val (.long ((vc.toInt64) - (48 : Int64))), .second, .val (.int (1 : Int32)), .val (.int (0 : Int32))] [(.int (1 : Int32))])) _
          exact retN X0 hx (t := .boolean) Bd.returns (by simp) (hb hby d3_71) hr
        ·
          show Q3 Z vc h0 n0 _ s₁.heap _
          rw [e0]
          have hv : (1 : Int32) = (own_ref vc) := by rw [own_ref, if_neg hc2, if_neg hc8, if_pos hc14]
          exact ⟨(congrArg (fun z => some (Value.int z)) hv), N0, rfl⟩
      ·
        have pre15 : ∀ t, Steps p.tables e below (s₁.setTop (mkF m 46 #[.val (.int vc), .val (.long ((vc.toInt64) - (65 : Int64))), .second, .val (.long ((vc.toInt64) - (48 : Int64))), .second, .val (.int (1 : Int32)), .unset] [(.int (lcmpW ((vc.toInt64) - (48 : Int64)) (9 : Int64)))])) t → Steps p.tables e below (s₁.setTop (entryFrame m #[(.int vc)] 7)) t := by
          intro t kt
          refine pre13 t ?_
          show Steps p.tables e below (s₁.setTop (mkF m 38 #[.val (.int vc), .val (.long ((vc.toInt64) - (65 : Int64))), .second, .val (.long ((vc.toInt64) - (48 : Int64))), .second, .val (.int (1 : Int32)), .unset] [(.int (lcmpW ((vc.toInt64) - (48 : Int64)) (0 : Int64)))])) _
          refine XS.ifNo X0.here hx rfl (hb hby d3_38) rfl ((if0 _ _).trans (flt ((fun q => hc14 ((lw_lt _ _).mp q)) : ¬ ((lcmpW ((vc.toInt64) - (48 : Int64)) (0 : Int64)) < (0 : Int32)))).1) ?_
          show Steps p.tables e below (s₁.setTop (mkF m 41 #[.val (.int vc), .val (.long ((vc.toInt64) - (65 : Int64))), .second, .val (.long ((vc.toInt64) - (48 : Int64))), .second, .val (.int (1 : Int32)), .unset] [])) _
          refine XS.lloadN X0.here hx rfl (hb hby d3_41) rfl ?_
          show Steps p.tables e below (s₁.setTop (mkF m 42 #[.val (.int vc), .val (.long ((vc.toInt64) - (65 : Int64))), .second, .val (.long ((vc.toInt64) - (48 : Int64))), .second, .val (.int (1 : Int32)), .unset] [(.long ((vc.toInt64) - (48 : Int64)))])) _
          refine X0.ldc2J hx hown (mvT hZ (hw _ (List.mem_of_getElem? (i := 13) rfl))) (g := (mkF m 42 #[.val (.int vc), .val (.long ((vc.toInt64) - (65 : Int64))), .second, .val (.long ((vc.toInt64) - (48 : Int64))), .second, .val (.int (1 : Int32)), .unset] [(.long ((vc.toInt64) - (48 : Int64)))])) rfl (hb hby d3_42) ?_
          show Steps p.tables e below (s₁.setTop (mkF m 45 #[.val (.int vc), .val (.long ((vc.toInt64) - (65 : Int64))), .second, .val (.long ((vc.toInt64) - (48 : Int64))), .second, .val (.int (1 : Int32)), .unset] [(.long (9 : Int64)), (.long ((vc.toInt64) - (48 : Int64)))])) _
          refine XS.lcmp X0.here hx rfl (hb hby d3_45) rfl ?_
          exact kt
        by_cases hc16 : (9 : Int64) < ((vc.toInt64) - (48 : Int64))
        ·
          obtain ⟨fs, hr, hrun, hended, hW, hsame⟩ := X0.leave (v := some (.int (1 : Int32))) (fun h => by rw [Bd.returns] at h; cases h)
          refine ⟨_, _, pre15 _ ?_, hrun, hended, _, _, rfl, ?_, ⟨_, rfl⟩, hW, hsame.mono (by decide) (by decide)⟩
          ·
            show Steps p.tables e below (s₁.setTop (mkF m 46 #[.val (.int vc), .val (.long ((vc.toInt64) - (65 : Int64))), .second, .val (.long ((vc.toInt64) - (48 : Int64))), .second, .val (.int (1 : Int32)), .unset] [(.int (lcmpW ((vc.toInt64) - (48 : Int64)) (9 : Int64)))])) _
            refine XS.ifYes X0.here hx rfl (pc0 := 46) (pc' := 53) rfl (hb hby d3_46) rfl ((if0 _ _).trans (tlt (((lw_gt _ _).mpr hc16) : (0 : Int32) < (lcmpW ((vc.toInt64) - (48 : Int64)) (9 : Int64)))).2.2.1) (by decide) (by decide) ?_
            show Steps p.tables e below (s₁.setTop (mkF m 53 #[.val (.int vc), .val (.long ((vc.toInt64) - (65 : Int64))), .second, .val (.long ((vc.toInt64) - (48 : Int64))), .second, .val (.int (1 : Int32)), .unset] [])) _
            refine XS.iconst X0.here hx rfl (hb hby d3_53) ?_
            show Steps p.tables e below (s₁.setTop (mkF m 54 #[.val (.int vc), .val (.long ((vc.toInt64) - (65 : Int64))), .second, .val (.long ((vc.toInt64) - (48 : Int64))), .second, .val (.int (1 : Int32)), .unset] [(.int (0 : Int32))])) _
            refine XS.istore X0.here hx rfl (hb hby d3_54) rfl (l' := #[.val (.int vc), .val (.long ((vc.toInt64) - (65 : Int64))), .second, .val (.long ((vc.toInt64) - (48 : Int64))), .second, .val (.int (1 : Int32)), .val (.int (0 : Int32))]) rfl ?_
            show Steps p.tables e below (s₁.setTop (mkF m 56 #[.val (.int vc), .val (.long ((vc.toInt64) - (65 : Int64))), .second, .val (.long ((vc.toInt64) - (48 : Int64))), .second, .val (.int (1 : Int32)), .val (.int (0 : Int32))] [])) _
            refine XS.iload X0.here hx rfl (hb hby d3_56) rfl ?_
            show Steps p.tables e below (s₁.setTop (mkF m 58 #[.val (.int vc), .val (.long ((vc.toInt64) - (65 : Int64))), .second, .val (.long ((vc.toInt64) - (48 : Int64))), .second, .val (.int (1 : Int32)), .val (.int (0 : Int32))] [(.int (1 : Int32))])) _
            refine XS.ifYes X0.here hx rfl (pc0 := 58) (pc' := 66) rfl (hb hby d3_58) rfl ((if0 _ _).trans (feq ((by decide) : ¬ ((1 : Int32) = (0 : Int32)))).2) (by decide) (by decide) ?_
            show Steps p.tables e below (s₁.setTop (mkF m 66 #[.val (.int vc), .val (.long ((vc.toInt64) - (65 : Int64))), .second, .val (.long ((vc.toInt64) - (48 : Int64))), .second, .val (.int (1 : Int32)), .val (.int (0 : Int32))] [])) _
            refine XS.iconst X0.here hx rfl (hb hby d3_66) ?_
            show Steps p.tables e below (s₁.setTop (mkF m 67 #[.val (.int vc), .val (.long ((vc.toInt64) - (65 : Int64))), .second, .val (.long ((vc.toInt64) - (48 : Int64))), .second, .val (.int (1 : Int32)), .val (.int (0 : Int32))] [(.int (1 : Int32))])) _
            refine XS.goto X0.here hx rfl (pc0 := 67) (pc' := 71) rfl (hb hby d3_67) (by decide) (by decide) ?_
            show Steps p.tables e below (s₁.setTop (mkF m 71 #[.val (.int vc), .val (.long ((vc.toInt64) - (65 : Int64))), .second, .val (.long ((vc.toInt64) - (48 : Int64))), .second, .val (.int (1 : Int32)), .val (.int (0 : Int32))] [(.int (1 : Int32))])) _
            exact retN X0 hx (t := .boolean) Bd.returns (by simp) (hb hby d3_71) hr
          ·
            show Q3 Z vc h0 n0 _ s₁.heap _
            rw [e0]
            have hv : (1 : Int32) = (own_ref vc) := by rw [own_ref, if_neg hc2, if_neg hc8, if_neg hc14, if_pos hc16]
            exact ⟨(congrArg (fun z => some (Value.int z)) hv), N0, rfl⟩
        ·
          obtain ⟨fs, hr, hrun, hended, hW, hsame⟩ := X0.leave (v := some (.int (1 : Int32))) (fun h => by rw [Bd.returns] at h; cases h)
          refine ⟨_, _, pre15 _ ?_, hrun, hended, _, _, rfl, ?_, ⟨_, rfl⟩, hW, hsame.mono (by decide) (by decide)⟩
          ·
            show Steps p.tables e below (s₁.setTop (mkF m 46 #[.val (.int vc), .val (.long ((vc.toInt64) - (65 : Int64))), .second, .val (.long ((vc.toInt64) - (48 : Int64))), .second, .val (.int (1 : Int32)), .unset] [(.int (lcmpW ((vc.toInt64) - (48 : Int64)) (9 : Int64)))])) _
            refine XS.ifNo X0.here hx rfl (hb hby d3_46) rfl ((if0 _ _).trans (flt ((fun q => hc16 ((lw_gt _ _).mp q)) : ¬ ((0 : Int32) < (lcmpW ((vc.toInt64) - (48 : Int64)) (9 : Int64))))).2.2.1) ?_
            show Steps p.tables e below (s₁.setTop (mkF m 49 #[.val (.int vc), .val (.long ((vc.toInt64) - (65 : Int64))), .second, .val (.long ((vc.toInt64) - (48 : Int64))), .second, .val (.int (1 : Int32)), .unset] [])) _
            refine XS.iconst X0.here hx rfl (hb hby d3_49) ?_
            show Steps p.tables e below (s₁.setTop (mkF m 50 #[.val (.int vc), .val (.long ((vc.toInt64) - (65 : Int64))), .second, .val (.long ((vc.toInt64) - (48 : Int64))), .second, .val (.int (1 : Int32)), .unset] [(.int (1 : Int32))])) _
            refine XS.goto X0.here hx rfl (pc0 := 50) (pc' := 54) rfl (hb hby d3_50) (by decide) (by decide) ?_
            show Steps p.tables e below (s₁.setTop (mkF m 54 #[.val (.int vc), .val (.long ((vc.toInt64) - (65 : Int64))), .second, .val (.long ((vc.toInt64) - (48 : Int64))), .second, .val (.int (1 : Int32)), .unset] [(.int (1 : Int32))])) _
            refine XS.istore X0.here hx rfl (hb hby d3_54) rfl (l' := #[.val (.int vc), .val (.long ((vc.toInt64) - (65 : Int64))), .second, .val (.long ((vc.toInt64) - (48 : Int64))), .second, .val (.int (1 : Int32)), .val (.int (1 : Int32))]) rfl ?_
            show Steps p.tables e below (s₁.setTop (mkF m 56 #[.val (.int vc), .val (.long ((vc.toInt64) - (65 : Int64))), .second, .val (.long ((vc.toInt64) - (48 : Int64))), .second, .val (.int (1 : Int32)), .val (.int (1 : Int32))] [])) _
            refine XS.iload X0.here hx rfl (hb hby d3_56) rfl ?_
            show Steps p.tables e below (s₁.setTop (mkF m 58 #[.val (.int vc), .val (.long ((vc.toInt64) - (65 : Int64))), .second, .val (.long ((vc.toInt64) - (48 : Int64))), .second, .val (.int (1 : Int32)), .val (.int (1 : Int32))] [(.int (1 : Int32))])) _
            refine XS.ifYes X0.here hx rfl (pc0 := 58) (pc' := 66) rfl (hb hby d3_58) rfl ((if0 _ _).trans (feq ((by decide) : ¬ ((1 : Int32) = (0 : Int32)))).2) (by decide) (by decide) ?_
            show Steps p.tables e below (s₁.setTop (mkF m 66 #[.val (.int vc), .val (.long ((vc.toInt64) - (65 : Int64))), .second, .val (.long ((vc.toInt64) - (48 : Int64))), .second, .val (.int (1 : Int32)), .val (.int (1 : Int32))] [])) _
            refine XS.iconst X0.here hx rfl (hb hby d3_66) ?_
            show Steps p.tables e below (s₁.setTop (mkF m 67 #[.val (.int vc), .val (.long ((vc.toInt64) - (65 : Int64))), .second, .val (.long ((vc.toInt64) - (48 : Int64))), .second, .val (.int (1 : Int32)), .val (.int (1 : Int32))] [(.int (1 : Int32))])) _
            refine XS.goto X0.here hx rfl (pc0 := 67) (pc' := 71) rfl (hb hby d3_67) (by decide) (by decide) ?_
            show Steps p.tables e below (s₁.setTop (mkF m 71 #[.val (.int vc), .val (.long ((vc.toInt64) - (65 : Int64))), .second, .val (.long ((vc.toInt64) - (48 : Int64))), .second, .val (.int (1 : Int32)), .val (.int (1 : Int32))] [(.int (1 : Int32))])) _
            exact retN X0 hx (t := .boolean) Bd.returns (by simp) (hb hby d3_71) hr
          ·
            show Q3 Z vc h0 n0 _ s₁.heap _
            rw [e0]
            have hv : (1 : Int32) = (own_ref vc) := by rw [own_ref, if_neg hc2, if_neg hc8, if_neg hc14, if_neg hc16]
            exact ⟨(congrArg (fun z => some (Value.int z)) hv), N0, rfl⟩
theorem d1_0 : decode method_3_code 0 = .ok (.iload_n 0, 1) := by decide +kernel
theorem pd_0 : parseMethodDescriptor "(I)Z" = some ⟨[.int], some .boolean⟩ := by decide +kernel
theorem d1_1 : decode method_3_code 1 = .ok (.invokestatic 15, 3) := by decide +kernel
theorem d1_4 : decode method_3_code 4 = .ok (.iload_n 0, 1) := by decide +kernel
theorem d1_5 : decode method_3_code 5 = .ok (.invokestatic 21, 3) := by decide +kernel
theorem d1_8 : decode method_3_code 8 = .ok (.if_icmp .ne 7, 3) := by decide +kernel
theorem d1_11 : decode method_3_code 11 = .ok (.iconst 1, 1) := by decide +kernel
theorem d1_12 : decode method_3_code 12 = .ok (.goto 4, 3) := by decide +kernel
theorem d1_16 : decode method_3_code 16 = .ok (.ireturn, 1) := by decide +kernel
theorem d1_15 : decode method_3_code 15 = .ok (.iconst 0, 1) := by decide +kernel
theorem ef_rm1 (m : MethodId) (x0 : Int32) : entryFrame m #[(.int x0)] 1 = mkF m 0 #[.val (.int x0)] [] := by first | (simp [entryFrame, mkF, argsToLocals, Value.category]; done) | rfl
def own_ag (vc : Int32) : Int32 := (if (own_cs vc) = (own_ref vc) then (1 : Int32) else (0 : Int32))
def Q1 (Z : State) (vc : Int32) (h0 : Heap) (n0 : Nat) (v : Option Value) (h : Heap) (L : List Loc) : Prop := v = some (.int (own_ag vc)) ∧ Fr n0 L ∧ h = h0
set_option maxRecDepth 65536 in
set_option maxHeartbeats 40000000 in
theorem rm1 (l : Launch) (Z : State) (a0 : Array Value) (hw : ∀ d ∈ tables_1, d.before a0 Z = true) (ws : List Jvm.Cond) (vc : Int32) (h0 : Heap) (n0 : Nat) (Z0 : n0 ≤ h0.size) :
    MetFree l (⟨"com/example/packet_radio_link/packetradiolink/frame/AddressIsCallSignCharacterPinLaw", "agrees", "(I)Z"⟩ : MethodName) (head1 (Jvm.Cond.code (⟨"com/example/packet_radio_link/packetradiolink/frame/AddressIsCallSignCharacterPinLaw", "agrees", "(I)Z"⟩ : MethodName) method_3_code 1 (some .boolean) :: ws) ({ frames := 1, cells := 0, slots := 0, locals := 19 } : Room)) (fun a U => a = #[(.int vc)] ∧ Z.Warmed39 U.vm ∧ U.heap = h0) (fun _ _ _ _ _ => True) (fun _ U o U' => ∃ v L, o = .returned v ∧ Q1 Z vc h0 n0 v U'.heap L ∧ FrameEnd U o U' L ({ frames := 1, cells := 0, slots := 0, locals := 19 } : Room).cells ({ frames := 1, cells := 0, slots := 0, locals := 19 } : Room).slots) := by
  refine MetFree.of_bodySF (plainFor_of_name pn_59) hisR ?_
  intro p e s m args below meth c s₁ Bd hml0 hP hK
  obtain ⟨rfl, hZ, hh⟩ := hP
  have hx := Bd.exec
  have hby := Bd.bytes
  have hml : c.maxLocals = 1 := hml0
  have hown : s.vm.findClass "com/example/packet_radio_link/packetradiolink/frame/AddressIsCallSignCharacterPinLaw" = some m.cls := findClass_of_methodNamed Bd.named
  have hnm := (name_of_methodNamed Bd.named Bd.method).1
  have X0 : Stand p l e ({ frames := 1, cells := 0, slots := 0, locals := 19 } : Room) s m #[(.int vc)] below meth c s₁ [] 0 0 := Stand.of_body Bd
  have e0 : s₁.heap = h0 := by rw [← hh, Bd.state]; rfl
  have N0 := Fr.nil n0
  have pre0 : ∀ t, Steps p.tables e below (s₁.setTop (mkF m 0 #[.val (.int vc)] [])) t → Steps p.tables e below (s₁.setTop (entryFrame m #[(.int vc)] 1)) t := fun t k => castTop (ef_rm1 m vc) k
  obtain ⟨_, _, ⟨T1, L1, k1, n1⟩, -, X1, ⟨Lc1, hQ1, l1, y1, z1⟩, st1⟩ := Jvm.LawKit.callS X0 hx (y := (⟨"com/example/packet_radio_link/packetradiolink/frame/Address", "isCallSignCharacter", "(I)Z"⟩ : MethodName)) hown (mvT hZ (hw _ (List.mem_of_getElem? (i := 4) rfl))) (mvT hZ (hw _ (List.mem_of_getElem? (i := 5) rfl))) (mvT hZ (hw _ (List.mem_of_getElem? (i := 6) rfl))) (mvT hZ (hw _ (List.mem_of_getElem? (i := 7) rfl))) (by decide) (backOf (W := 0) (rm2 l Z a0 hw [] vc  h0 n0 Z0 ) hZ (hw _ (List.mem_of_getElem? (i := 7) rfl)) (hw _ (List.mem_of_getElem? (i := 6) rfl)) (by decide) (by decide)) (g := (mkF m 1 #[.val (.int vc)] [(.int vc)])) rfl (by rw [hml]; rfl) (argsL := [(.int vc)]) (rest := []) (lenOf pd_0 rfl) rfl (by show 2 * 0 + _ ≤ _; exact Nat.le_of_eq rfl) (hb hby d1_1) (fun _ _ => ⟨rfl, e0, (by decide : 0 + 0 ≤ _), (by decide : 0 + 0 ≤ _)⟩)
  dsimp only [Pt.U, Pt.locs, Pt.cells, Pt.slots] at X1 l1 y1 z1 st1 hQ1
  subst l1 y1 z1
  obtain ⟨rfl, N1q, e1q⟩ := hQ1
  have N1 := Fr.app N0 N1q
  obtain ⟨_, _, ⟨T2, L2, k2, n2⟩, -, X2, ⟨Lc2, hQ2, l2, y2, z2⟩, st2⟩ := Jvm.LawKit.callS X1 hx (y := (⟨"com/example/packet_radio_link/packetradiolink/frame/AddressIsCallSignCharacterPinLaw", "ref", "(I)Z"⟩ : MethodName)) hown (mvT hZ (hw _ (List.mem_of_getElem? (i := 8) rfl))) (mvT hZ (hw _ (List.mem_of_getElem? (i := 9) rfl))) (mvT hZ (hw _ (List.mem_of_getElem? (i := 2) rfl))) (mvT hZ (hw _ (List.mem_of_getElem? (i := 10) rfl))) (by decide) (backOf (W := 1) (rm3 l Z a0 hw [] vc  h0 n0 Z0 ) hZ (hw _ (List.mem_of_getElem? (i := 10) rfl)) (hw _ (List.mem_of_getElem? (i := 2) rfl)) (by decide) (by decide)) (g := (mkF m 5 #[.val (.int vc)] [(.int vc), (.int (own_cs vc))])) rfl (by rw [hml]; rfl) (argsL := [(.int vc)]) (rest := [(.int (own_cs vc))]) (lenOf pd_0 rfl) rfl (by show 2 * 0 + _ ≤ _; exact Nat.le_of_eq rfl) (hb hby d1_5) (fun _ _ => ⟨rfl, e1q, (by decide : 0 + 0 ≤ _), (by decide : 0 + 0 ≤ _)⟩)
  dsimp only [Pt.U, Pt.locs, Pt.cells, Pt.slots] at X2 l2 y2 z2 st2 hQ2
  subst l2 y2 z2
  obtain ⟨rfl, N2q, e2q⟩ := hQ2
  have N2 := Fr.app N1 N2q
  have pre3 : ∀ t, Steps p.tables e below (T2.setTop (mkF m 8 #[.val (.int vc)] [(.int (own_ref vc)), (.int (own_cs vc))])) t → Steps p.tables e below (s₁.setTop (entryFrame m #[(.int vc)] 1)) t := by
    intro t kt
    refine pre0 t ?_
    show Steps p.tables e below (s₁.setTop (mkF m 0 #[.val (.int vc)] [])) _
    refine XS.iloadN X0.here hx rfl (hb hby d1_0) rfl ?_
    show Steps p.tables e below (s₁.setTop (mkF m 1 #[.val (.int vc)] [(.int vc)])) _
    refine st1 _ ?_
    show Steps p.tables e below (T1.setTop (mkF m 4 #[.val (.int vc)] [(.int (own_cs vc))])) _
    refine XS.iloadN X1.here hx rfl (hb hby d1_4) rfl ?_
    show Steps p.tables e below (T1.setTop (mkF m 5 #[.val (.int vc)] [(.int vc), (.int (own_cs vc))])) _
    refine st2 _ ?_
    exact kt
  by_cases hc4 : (own_cs vc) = (own_ref vc)
  ·
    obtain ⟨fs, hr, hrun, hended, hW, hsame⟩ := X2.leave (v := some (.int (1 : Int32))) (fun h => by rw [Bd.returns] at h; cases h)
    refine ⟨_, _, pre3 _ ?_, hrun, hended, _, _, rfl, ?_, ⟨_, rfl⟩, hW, hsame.mono (by decide) (by decide)⟩
    ·
      show Steps p.tables e below (T2.setTop (mkF m 8 #[.val (.int vc)] [(.int (own_ref vc)), (.int (own_cs vc))])) _
      refine XS.icmpNo X2.here hx rfl (hb hby d1_8) rfl (teq (hc4 : (own_cs vc) = (own_ref vc))).2 ?_
      show Steps p.tables e below (T2.setTop (mkF m 11 #[.val (.int vc)] [])) _
      refine XS.iconst X2.here hx rfl (hb hby d1_11) ?_
      show Steps p.tables e below (T2.setTop (mkF m 12 #[.val (.int vc)] [(.int (1 : Int32))])) _
      refine XS.goto X2.here hx rfl (pc0 := 12) (pc' := 16) rfl (hb hby d1_12) (by decide) (by decide) ?_
      show Steps p.tables e below (T2.setTop (mkF m 16 #[.val (.int vc)] [(.int (1 : Int32))])) _
      exact retN X2 hx (t := .boolean) Bd.returns (by simp) (hb hby d1_16) hr
    ·
      show Q1 Z vc h0 n0 _ T2.heap _
      rw [e2q]
      have hv : (1 : Int32) = (own_ag vc) := by rw [own_ag, if_pos hc4]
      exact ⟨(congrArg (fun z => some (Value.int z)) hv), N2, rfl⟩
  ·
    obtain ⟨fs, hr, hrun, hended, hW, hsame⟩ := X2.leave (v := some (.int (0 : Int32))) (fun h => by rw [Bd.returns] at h; cases h)
    refine ⟨_, _, pre3 _ ?_, hrun, hended, _, _, rfl, ?_, ⟨_, rfl⟩, hW, hsame.mono (by decide) (by decide)⟩
    ·
      show Steps p.tables e below (T2.setTop (mkF m 8 #[.val (.int vc)] [(.int (own_ref vc)), (.int (own_cs vc))])) _
      refine XS.icmpYes X2.here hx rfl (pc0 := 8) (pc' := 15) rfl (hb hby d1_8) rfl (feq (hc4 : ¬ ((own_cs vc) = (own_ref vc)))).2 (by decide) (by decide) ?_
      show Steps p.tables e below (T2.setTop (mkF m 15 #[.val (.int vc)] [])) _
      refine XS.iconst X2.here hx rfl (hb hby d1_15) ?_
      show Steps p.tables e below (T2.setTop (mkF m 16 #[.val (.int vc)] [(.int (0 : Int32))])) _
      exact retN X2 hx (t := .boolean) Bd.returns (by simp) (hb hby d1_16) hr
    ·
      show Q1 Z vc h0 n0 _ T2.heap _
      rw [e2q]
      have hv : (0 : Int32) = (own_ag vc) := by rw [own_ag, if_neg hc4]
      exact ⟨(congrArg (fun z => some (Value.int z)) hv), N2, rfl⟩

theorem own_ref_cs (c : Int32) : own_cs c = own_ref c := by
  have e : c.toInt64.toInt = c.toInt := Int32.toInt_toInt64 c
  have hb := c.toInt_lt
  have hb' := c.le_toInt
  have e1 : (c.toInt64 - (65 : Int64)).toInt = c.toInt - 65 := by
    rw [Int64.toInt_sub, e]; show (c.toInt - 65).bmod _ = _; rw [Int.bmod_eq_of_le] <;> omega
  have e2 : (c.toInt64 - (48 : Int64)).toInt = c.toInt - 48 := by
    rw [Int64.toInt_sub, e]; show (c.toInt - 48).bmod _ = _; rw [Int.bmod_eq_of_le] <;> omega
  simp only [own_cs, own_ref, Int32.lt_iff_toInt_lt, Int64.lt_iff_toInt_lt, e1, e2]
  have k1 : (65 : Int32).toInt = 65 := rfl
  have k2 : (90 : Int32).toInt = 90 := rfl
  have k3 : (48 : Int32).toInt = 48 := rfl
  have k4 : (57 : Int32).toInt = 57 := rfl
  have k5 : (0 : Int64).toInt = 0 := rfl
  have k6 : (25 : Int64).toInt = 25 := rfl
  have k7 : (9 : Int64).toInt = 9 := rfl
  rw [k1, k2, k3, k4, k5, k6, k7]
  repeat' split
  all_goals first | rfl | omega
theorem own_ag_eq (c : Int32) : own_ag c = 1 := by rw [own_ag, if_pos (own_ref_cs c)]
theorem ef_rm0 (m : MethodId) (x0 : Int32) (x1 : Int32) : entryFrame m #[(.int x0), (.int x1)] maxLocals = mkF m 0 #[.val (.int x0), .val (.int x1), .unset, .unset, .unset] [] := by first | (simp [entryFrame, mkF, argsToLocals, Value.category, maxLocals]; done) | rfl
def Q0 (Z : State) (vc : Int32) (vd : Int32) (h0 : Heap) (n0 : Nat) (v : Option Value) (h : Heap) (L : List Loc) : Prop := v = some (.int (1 : Int32)) ∧ Fr n0 L
set_option maxRecDepth 65536 in
set_option maxHeartbeats 40000000 in
theorem rm0 (l : Launch) (Z : State) (a0 : Array Value) (hw : ∀ d ∈ tables_1, d.before a0 Z = true) (ws : List Jvm.Cond) (vc : Int32) (vd : Int32) (h0 : Heap) (n0 : Nat) (Z0 : n0 ≤ h0.size) :
    MetFree l x (head1 (Jvm.Cond.code x code maxLocals ret :: ws) room_1) (fun a U => a = #[(.int vc), (.int vd)] ∧ Z.Warmed39 U.vm ∧ U.heap = h0) (fun _ _ _ _ _ => True) (fun _ U o U' => ∃ v L, o = .returned v ∧ Q0 Z vc vd h0 n0 v U'.heap L ∧ FrameEnd U o U' L room_1.cells room_1.slots) := by
  refine MetFree.of_bodySF (plainFor_of_name pn_59) hisR ?_
  intro p e s m args below meth c s₁ Bd hml0 hP hK
  obtain ⟨rfl, hZ, hh⟩ := hP
  have hx := Bd.exec
  have hby := Bd.bytes
  have hml : c.maxLocals = 5 := hml0
  have hown : s.vm.findClass "com/example/packet_radio_link/packetradiolink/frame/AddressIsCallSignCharacterPinLaw" = some m.cls := findClass_of_methodNamed Bd.named
  have hnm := (name_of_methodNamed Bd.named Bd.method).1
  have X0 : Stand p l e room_1 s m #[(.int vc), (.int vd)] below meth c s₁ [] 0 0 := Stand.of_body Bd
  have e0 : s₁.heap = h0 := by rw [← hh, Bd.state]; rfl
  have N0 := Fr.nil n0
  have pre0 : ∀ t, Steps p.tables e below (s₁.setTop (mkF m 0 #[.val (.int vc), .val (.int vd), .unset, .unset, .unset] [])) t → Steps p.tables e below (s₁.setTop (entryFrame m #[(.int vc), (.int vd)] maxLocals)) t := fun t k => castTop (ef_rm0 m vc vd) k
  obtain ⟨_, _, ⟨T1, L1, k1, n1⟩, -, X1, ⟨Lc1, hQ1, l1, y1, z1⟩, st1⟩ := Jvm.LawKit.callS X0 hx (y := (⟨"com/example/packet_radio_link/packetradiolink/frame/AddressIsCallSignCharacterPinLaw", "agrees", "(I)Z"⟩ : MethodName)) hown (mvT hZ (hw _ (List.mem_of_getElem? (i := 0) rfl))) (mvT hZ (hw _ (List.mem_of_getElem? (i := 1) rfl))) (mvT hZ (hw _ (List.mem_of_getElem? (i := 2) rfl))) (mvT hZ (hw _ (List.mem_of_getElem? (i := 3) rfl))) (by decide) (backOf (W := 0) (rm1 l Z a0 hw [] vc  h0 n0 Z0 ) hZ (hw _ (List.mem_of_getElem? (i := 3) rfl)) (hw _ (List.mem_of_getElem? (i := 2) rfl)) (by decide) (by decide)) (g := (mkF m 19 #[.val (.int vc), .val (.int vd), .val (.int ((47 : Int32) + (vd &&& (63 : Int32)))), .val (.int (vd &&& (255 : Int32))), .val (.int vc)] [(.int vc)])) rfl (by rw [hml]; rfl) (argsL := [(.int vc)]) (rest := []) (lenOf pd_0 rfl) rfl (by show 2 * 0 + _ ≤ _; exact Nat.le_of_eq rfl) (hb hby at_19) (fun _ _ => ⟨rfl, e0, (by decide : 0 + 0 ≤ _), (by decide : 0 + 0 ≤ _)⟩)
  dsimp only [Pt.U, Pt.locs, Pt.cells, Pt.slots] at X1 l1 y1 z1 st1 hQ1
  subst l1 y1 z1
  obtain ⟨rfl, N1q, e1q⟩ := hQ1
  have N1 := Fr.app N0 N1q
  obtain ⟨_, _, ⟨T2, L2, k2, n2⟩, -, X2, ⟨Lc2, hQ2, l2, y2, z2⟩, st2⟩ := Jvm.LawKit.callS X1 hx (y := (⟨"com/example/packet_radio_link/packetradiolink/frame/AddressIsCallSignCharacterPinLaw", "agrees", "(I)Z"⟩ : MethodName)) hown (mvT hZ (hw _ (List.mem_of_getElem? (i := 0) rfl))) (mvT hZ (hw _ (List.mem_of_getElem? (i := 1) rfl))) (mvT hZ (hw _ (List.mem_of_getElem? (i := 2) rfl))) (mvT hZ (hw _ (List.mem_of_getElem? (i := 3) rfl))) (by decide) (backOf (W := 0) (rm1 l Z a0 hw [] (vd &&& (255 : Int32))  h0 n0 Z0 ) hZ (hw _ (List.mem_of_getElem? (i := 3) rfl)) (hw _ (List.mem_of_getElem? (i := 2) rfl)) (by decide) (by decide)) (g := (mkF m 26 #[.val (.int vc), .val (.int vd), .val (.int ((47 : Int32) + (vd &&& (63 : Int32)))), .val (.int (vd &&& (255 : Int32))), .val (.int vc)] [(.int (vd &&& (255 : Int32)))])) rfl (by rw [hml]; rfl) (argsL := [(.int (vd &&& (255 : Int32)))]) (rest := []) (lenOf pd_0 rfl) rfl (by show 2 * 0 + _ ≤ _; exact Nat.le_of_eq rfl) (hb hby at_26) (fun _ _ => ⟨rfl, e1q, (by decide : 0 + 0 ≤ _), (by decide : 0 + 0 ≤ _)⟩)
  dsimp only [Pt.U, Pt.locs, Pt.cells, Pt.slots] at X2 l2 y2 z2 st2 hQ2
  subst l2 y2 z2
  obtain ⟨rfl, N2q, e2q⟩ := hQ2
  have N2 := Fr.app N1 N2q
  obtain ⟨_, _, ⟨T3, L3, k3, n3⟩, -, X3, ⟨Lc3, hQ3, l3, y3, z3⟩, st3⟩ := Jvm.LawKit.callS X2 hx (y := (⟨"com/example/packet_radio_link/packetradiolink/frame/AddressIsCallSignCharacterPinLaw", "agrees", "(I)Z"⟩ : MethodName)) hown (mvT hZ (hw _ (List.mem_of_getElem? (i := 0) rfl))) (mvT hZ (hw _ (List.mem_of_getElem? (i := 1) rfl))) (mvT hZ (hw _ (List.mem_of_getElem? (i := 2) rfl))) (mvT hZ (hw _ (List.mem_of_getElem? (i := 3) rfl))) (by decide) (backOf (W := 0) (rm1 l Z a0 hw [] ((47 : Int32) + (vd &&& (63 : Int32)))  h0 n0 Z0 ) hZ (hw _ (List.mem_of_getElem? (i := 3) rfl)) (hw _ (List.mem_of_getElem? (i := 2) rfl)) (by decide) (by decide)) (g := (mkF m 33 #[.val (.int vc), .val (.int vd), .val (.int ((47 : Int32) + (vd &&& (63 : Int32)))), .val (.int (vd &&& (255 : Int32))), .val (.int vc)] [(.int ((47 : Int32) + (vd &&& (63 : Int32))))])) rfl (by rw [hml]; rfl) (argsL := [(.int ((47 : Int32) + (vd &&& (63 : Int32))))]) (rest := []) (lenOf pd_0 rfl) rfl (by show 2 * 0 + _ ≤ _; exact Nat.le_of_eq rfl) (hb hby at_33) (fun _ _ => ⟨rfl, e2q, (by decide : 0 + 0 ≤ _), (by decide : 0 + 0 ≤ _)⟩)
  dsimp only [Pt.U, Pt.locs, Pt.cells, Pt.slots] at X3 l3 y3 z3 st3 hQ3
  subst l3 y3 z3
  obtain ⟨rfl, N3q, e3q⟩ := hQ3
  have N3 := Fr.app N2 N3q
  obtain ⟨fs, hr, hrun, hended, hW, hsame⟩ := X3.leave (v := some (.int (1 : Int32))) (fun h => by rw [Bd.returns] at h; cases h)
  refine ⟨_, _, pre0 _ ?_, hrun, hended, _, _, rfl, ?_, ⟨_, rfl⟩, hW, hsame.mono (by decide) (by decide)⟩
  ·
    show Steps p.tables e below (s₁.setTop (mkF m 0 #[.val (.int vc), .val (.int vd), .unset, .unset, .unset] [])) _
    refine XS.bipush X0.here hx rfl (hb hby at_0) ?_
    show Steps p.tables e below (s₁.setTop (mkF m 2 #[.val (.int vc), .val (.int vd), .unset, .unset, .unset] [(.int (47 : Int32))])) _
    refine XS.iloadN X0.here hx rfl (hb hby at_2) rfl ?_
    show Steps p.tables e below (s₁.setTop (mkF m 3 #[.val (.int vc), .val (.int vd), .unset, .unset, .unset] [(.int vd), (.int (47 : Int32))])) _
    refine XS.bipush X0.here hx rfl (hb hby at_3) ?_
    show Steps p.tables e below (s₁.setTop (mkF m 5 #[.val (.int vc), .val (.int vd), .unset, .unset, .unset] [(.int (63 : Int32)), (.int vd), (.int (47 : Int32))])) _
    refine XS.iand X0.here hx rfl (hb hby at_5) rfl ?_
    show Steps p.tables e below (s₁.setTop (mkF m 6 #[.val (.int vc), .val (.int vd), .unset, .unset, .unset] [(.int (vd &&& (63 : Int32))), (.int (47 : Int32))])) _
    refine XS.iadd X0.here hx rfl (hb hby at_6) rfl ?_
    show Steps p.tables e below (s₁.setTop (mkF m 7 #[.val (.int vc), .val (.int vd), .unset, .unset, .unset] [(.int ((47 : Int32) + (vd &&& (63 : Int32))))])) _
    refine XS.istoreN X0.here hx rfl (hb hby at_7) rfl (l' := #[.val (.int vc), .val (.int vd), .val (.int ((47 : Int32) + (vd &&& (63 : Int32)))), .unset, .unset]) rfl ?_
    show Steps p.tables e below (s₁.setTop (mkF m 8 #[.val (.int vc), .val (.int vd), .val (.int ((47 : Int32) + (vd &&& (63 : Int32)))), .unset, .unset] [])) _
    refine XS.iloadN X0.here hx rfl (hb hby at_8) rfl ?_
    show Steps p.tables e below (s₁.setTop (mkF m 9 #[.val (.int vc), .val (.int vd), .val (.int ((47 : Int32) + (vd &&& (63 : Int32)))), .unset, .unset] [(.int vd)])) _
    refine XS.sipush X0.here hx rfl (hb hby at_9) ?_
    show Steps p.tables e below (s₁.setTop (mkF m 12 #[.val (.int vc), .val (.int vd), .val (.int ((47 : Int32) + (vd &&& (63 : Int32)))), .unset, .unset] [(.int (255 : Int32)), (.int vd)])) _
    refine XS.iand X0.here hx rfl (hb hby at_12) rfl ?_
    show Steps p.tables e below (s₁.setTop (mkF m 13 #[.val (.int vc), .val (.int vd), .val (.int ((47 : Int32) + (vd &&& (63 : Int32)))), .unset, .unset] [(.int (vd &&& (255 : Int32)))])) _
    refine XS.istoreN X0.here hx rfl (hb hby at_13) rfl (l' := #[.val (.int vc), .val (.int vd), .val (.int ((47 : Int32) + (vd &&& (63 : Int32)))), .val (.int (vd &&& (255 : Int32))), .unset]) rfl ?_
    show Steps p.tables e below (s₁.setTop (mkF m 14 #[.val (.int vc), .val (.int vd), .val (.int ((47 : Int32) + (vd &&& (63 : Int32)))), .val (.int (vd &&& (255 : Int32))), .unset] [])) _
    refine XS.iloadN X0.here hx rfl (hb hby at_14) rfl ?_
    show Steps p.tables e below (s₁.setTop (mkF m 15 #[.val (.int vc), .val (.int vd), .val (.int ((47 : Int32) + (vd &&& (63 : Int32)))), .val (.int (vd &&& (255 : Int32))), .unset] [(.int vc)])) _
    refine XS.istore X0.here hx rfl (hb hby at_15) rfl (l' := #[.val (.int vc), .val (.int vd), .val (.int ((47 : Int32) + (vd &&& (63 : Int32)))), .val (.int (vd &&& (255 : Int32))), .val (.int vc)]) rfl ?_
    show Steps p.tables e below (s₁.setTop (mkF m 17 #[.val (.int vc), .val (.int vd), .val (.int ((47 : Int32) + (vd &&& (63 : Int32)))), .val (.int (vd &&& (255 : Int32))), .val (.int vc)] [])) _
    refine XS.iload X0.here hx rfl (hb hby at_17) rfl ?_
    show Steps p.tables e below (s₁.setTop (mkF m 19 #[.val (.int vc), .val (.int vd), .val (.int ((47 : Int32) + (vd &&& (63 : Int32)))), .val (.int (vd &&& (255 : Int32))), .val (.int vc)] [(.int vc)])) _
    refine st1 _ ?_
    show Steps p.tables e below (T1.setTop (mkF m 22 #[.val (.int vc), .val (.int vd), .val (.int ((47 : Int32) + (vd &&& (63 : Int32)))), .val (.int (vd &&& (255 : Int32))), .val (.int vc)] [(.int (own_ag vc))])) _
    refine XS.ifNo X1.here hx rfl (hb hby at_22) rfl ((if0 _ _).trans (feq ((by rw [own_ag_eq]; decide) : ¬ ((own_ag vc) = (0 : Int32)))).1) ?_
    show Steps p.tables e below (T1.setTop (mkF m 25 #[.val (.int vc), .val (.int vd), .val (.int ((47 : Int32) + (vd &&& (63 : Int32)))), .val (.int (vd &&& (255 : Int32))), .val (.int vc)] [])) _
    refine XS.iloadN X1.here hx rfl (hb hby at_25) rfl ?_
    show Steps p.tables e below (T1.setTop (mkF m 26 #[.val (.int vc), .val (.int vd), .val (.int ((47 : Int32) + (vd &&& (63 : Int32)))), .val (.int (vd &&& (255 : Int32))), .val (.int vc)] [(.int (vd &&& (255 : Int32)))])) _
    refine st2 _ ?_
    show Steps p.tables e below (T2.setTop (mkF m 29 #[.val (.int vc), .val (.int vd), .val (.int ((47 : Int32) + (vd &&& (63 : Int32)))), .val (.int (vd &&& (255 : Int32))), .val (.int vc)] [(.int (own_ag (vd &&& (255 : Int32))))])) _
    refine XS.ifNo X2.here hx rfl (hb hby at_29) rfl ((if0 _ _).trans (feq ((by rw [own_ag_eq]; decide) : ¬ ((own_ag (vd &&& (255 : Int32))) = (0 : Int32)))).1) ?_
    show Steps p.tables e below (T2.setTop (mkF m 32 #[.val (.int vc), .val (.int vd), .val (.int ((47 : Int32) + (vd &&& (63 : Int32)))), .val (.int (vd &&& (255 : Int32))), .val (.int vc)] [])) _
    refine XS.iloadN X2.here hx rfl (hb hby at_32) rfl ?_
    show Steps p.tables e below (T2.setTop (mkF m 33 #[.val (.int vc), .val (.int vd), .val (.int ((47 : Int32) + (vd &&& (63 : Int32)))), .val (.int (vd &&& (255 : Int32))), .val (.int vc)] [(.int ((47 : Int32) + (vd &&& (63 : Int32))))])) _
    refine st3 _ ?_
    show Steps p.tables e below (T3.setTop (mkF m 36 #[.val (.int vc), .val (.int vd), .val (.int ((47 : Int32) + (vd &&& (63 : Int32)))), .val (.int (vd &&& (255 : Int32))), .val (.int vc)] [(.int (own_ag ((47 : Int32) + (vd &&& (63 : Int32)))))])) _
    refine XS.ifNo X3.here hx rfl (hb hby at_36) rfl ((if0 _ _).trans (feq ((by rw [own_ag_eq]; decide) : ¬ ((own_ag ((47 : Int32) + (vd &&& (63 : Int32)))) = (0 : Int32)))).1) ?_
    show Steps p.tables e below (T3.setTop (mkF m 39 #[.val (.int vc), .val (.int vd), .val (.int ((47 : Int32) + (vd &&& (63 : Int32)))), .val (.int (vd &&& (255 : Int32))), .val (.int vc)] [])) _
    refine XS.iconst X3.here hx rfl (hb hby at_39) ?_
    show Steps p.tables e below (T3.setTop (mkF m 40 #[.val (.int vc), .val (.int vd), .val (.int ((47 : Int32) + (vd &&& (63 : Int32)))), .val (.int (vd &&& (255 : Int32))), .val (.int vc)] [(.int (1 : Int32))])) _
    refine XS.goto X3.here hx rfl (pc0 := 40) (pc' := 44) rfl (hb hby at_40) (by decide) (by decide) ?_
    show Steps p.tables e below (T3.setTop (mkF m 44 #[.val (.int vc), .val (.int vd), .val (.int ((47 : Int32) + (vd &&& (63 : Int32)))), .val (.int (vd &&& (255 : Int32))), .val (.int vc)] [(.int (1 : Int32))])) _
    exact retN X3 hx (t := .boolean) Bd.returns (by simp) (hb hby at_44) hr
  ·
    show Q0 Z vc vd h0 n0 _ T3.heap _
    rw [e3q]
    exact ⟨rfl, N3⟩
set_option maxRecDepth 65536 in
set_option maxHeartbeats 40000000 in
theorem comes_1 {Post : Tables → Env → Array Value → State → Outcome → State → Prop} (hpost : ∀ tb e args s v u, (limb_1_1.after args s (.returned v) u = true ∧ limb_1_2.after args s (.returned v) u = true ∧ True) → FrameEnd s (.returned v) u (Jvm.fieldLocs frame_1_writes args s ++ Jvm.arrayLocs frame_1_arrays args s ++ Jvm.staticLocs frame_1_statics s) 0 0 → Post tb e args s (.returned v) u) :
    ArmFor flags0 classFile x code maxLocals ret World_1 tables_1 room_1 Calls_1 rest_1 Pre_1 Post := by
  intro l hfl _ _ p e ha hc hk s m args below hf hA hF happ hP
  obtain ⟨hcalls, hrest, hpre⟩ := hP
  obtain ⟨-, -, -, hnamed, -, -, -, hat⟩ := (Spec.applies_iff hf).mp happ
  obtain ⟨hg, hn⟩ := and_e (Cond.before_iff.mp (show (Jvm.Cond.and given_1 narrow_1).before args s = true from hpre))
  obtain ⟨g1a, g1b⟩ := and_e hg
  obtain ⟨g2a, g2b⟩ := and_e g1b
  obtain ⟨w0, w1, rfl⟩ : ∃ w0 w1 : Value, args = #[w0, w1] := by
    have hs : args.size = 2 := by simpa [Cond.value, given_1] using g1a
    obtain ⟨L⟩ := args
    match L, hs with
    | [w0, w1], _ => exact ⟨w0, w1, rfl⟩
  have hw := fun d (hd : d ∈ tables_1) => atoms_spec (ws := Jvm.Cond.code x code maxLocals ret :: tables_1) hat d (List.mem_cons_of_mem _ hd)
  have hfit : Fit s := fun {y c} hc i hi => by
    obtain ⟨ha, rfl⟩ := Array.getElem?_eq_some_iff.mp hc
    have q := List.all_eq_true.mp ((Array.all_eq_true_iff_forall_mem.mp hF) _ (Array.getElem_mem ha)) i (List.mem_range.mpr hi)
    simpa [Array.getElem?_eq_getElem hi] using q
  obtain ⟨vc, ei0⟩ := is_v g2a
  obtain rfl : w0 = (.int vc) := Option.some.inj ei0
  obtain ⟨vd, ei1⟩ := is_v g2b
  obtain rfl : w1 = (.int vd) := Option.some.inj ei1
  obtain ⟨n, o, h1, h2, h3, _, L, rfl, ⟨rfl, N⟩, hq⟩ := rm0 l s _ hw tables_1 vc vd  s.heap s.heap.size (Nat.le_refl _)  p e ha hc hk s m _ below hf ((Spec.applies_iff_loose hf).mp happ).1 ⟨rfl, State.Warmed39.refl s, rfl⟩ trivial
  refine ⟨n, _, h1, h2, h3, hpost _ _ _ _ _ _ ⟨Cond.after_iff.mpr rfl, Cond.after_iff.mpr (eq_i res_at (Term.int_eval (1)) rfl), trivial⟩ ⟨hq.1, hq.2.1, (hq.2.2.sift fun y hy => Or.inr (N y hy)).mono (by decide) (by decide)⟩⟩
theorem main_1_1 : Claimed_1_1 := comes_1 fun _ _ _ _ _ _ h hF => ⟨h.1, hF⟩
theorem main_1_2 : Claimed_1_2 := comes_1 fun _ _ _ _ _ _ h hF => ⟨h.2.1, hF⟩
end Jvm.Pilot.@@N@@
namespace Jvm.Pilot.@@N@@
open Jvm Jvm.ClassFile Sem Op Lib Jvm.Free Jvm.Stand Jvm.Pilot.@@N@@.Jvm.D
/-! MADE BY PROGRAM (witnessworld.py) out of the Statement's table words and the real class files: 7 classes; the members and pool entries that the words name. The judged class is class 1, her method 3. -/
namespace start1
open Jvm.ClassFile
def u (s : String) : CpInfo := .utf8 (stringToUtf16 s)
/-- a pool by its gaps: so many unusable entries, then the entry; so many at the end -/
def gap : Nat → List CpInfo → List CpInfo
  | 0, r => r
  | n + 1, r => .unusable :: gap n r
def poolList (es : List (Nat × CpInfo)) (last : Nat) : List CpInfo := es.foldr (fun e r => gap e.1 (e.2 :: r)) (gap last [])
def pool (es : List (Nat × CpInfo)) (last : Nat) : Array CpInfo := ⟨poolList es last⟩
def fileOf (pool : Array CpInfo) (this : Nat) (attrs : Array Attribute := #[]) (ms : Array MethodInfo := #[]) (fl : Nat := 33) (sup : Nat := 0) (ifs : Array Nat := #[]) (fds : Array FieldInfo := #[]) : ClassFile where
  minorVersion := 0
  majorVersion := 65
  constantPool := pool
  accessFlags := fl
  thisClass := this
  superClass := sup
  interfaces := ifs
  fields := fds
  methods := ms
  attributes := attrs
def plain (name : String) (sup : Option ClassId) : Class where
  name := name
  kind := .ordinary
  loader := none
  accessFlags := 33
  super := sup
  interfaces := #[]
  cf := none
  fields := #[]
  methods := #[]
  instanceTypes := #[]
  staticTypes := #[]
  resolved := #[]
  callSites := []
  init := .initialized
  statics := none
  mirror := none

def pool0 : Array CpInfo := pool [(5, u "<init>"), (0, u "()V"), (1, .class_ 10), (1, u "java/lang/Object")] 113

def k0m0 : Method := { name := "<init>", desc := "()V", sig := { parameters := [], returnType := none }, accessFlags := 1, code := none }
/-- java/lang/Object -/
def k0 : Class := { plain "java/lang/Object" none with
  accessFlags := 33
  interfaces := #[]
  cf := some (fileOf pool0 8 #[] #[{ accessFlags := 1, nameIndex := 5, descriptorIndex := 6, attributes := #[] }] 33 0 #[] #[])
  fields := #[]
  methods := #[k0m0]
  instanceTypes := #[]
  staticTypes := #[]
  resolved := Array.replicate 124 none
  statics := none }

def pool1 : Array CpInfo := pool [(2, .class_ 4), (1, u "java/lang/Object"), (0, u "<init>"), (0, u "()V"), (0, .long 65), (1, .long 48), (1, .long 25), (1, .long 9), (1, .methodref 16 17), (0, .class_ 18), (0, .nameAndType 19 20), (0, u "com/example/packet_radio_link/packetradiolink/frame/Address"), (0, u "isCallSignCharacter"), (0, u "(I)Z"), (0, .methodref 22 23), (0, .class_ 24), (0, .nameAndType 25 20), (0, u "com/example/packet_radio_link/packetradiolink/frame/AddressIsCallSignCharacterPinLaw"), (0, u "ref"), (0, .methodref 22 27), (0, .nameAndType 28 20), (0, u "agrees"), (3, u "law"), (0, u "(II)Z")] 2

def k1m0 : Method := { name := "<init>", desc := "()V", sig := { parameters := [], returnType := none }, accessFlags := 1, code := none }
def k1c1 : Code := { maxStack := 4, maxLocals := 7, code := method_2_code, exceptionTable := #[], attributes := #[] }
def k1m1 : Method := { name := "ref", desc := "(I)Z", sig := { parameters := [.int], returnType := some .boolean }, accessFlags := 10, code := some k1c1 }
def k1c2 : Code := { maxStack := 2, maxLocals := 1, code := method_3_code, exceptionTable := #[], attributes := #[] }
def k1m2 : Method := { name := "agrees", desc := "(I)Z", sig := { parameters := [.int], returnType := some .boolean }, accessFlags := 10, code := some k1c2 }
def k1c3 : Code := { maxStack := 3, maxLocals := 5, code := code, exceptionTable := #[], attributes := #[] }
def k1m3 : Method := { name := "law", desc := "(II)Z", sig := { parameters := [.int, .int], returnType := some .boolean }, accessFlags := 9, code := some k1c3 }
/-- com/example/packet_radio_link/packetradiolink/frame/AddressIsCallSignCharacterPinLaw -/
def k1 : Class := { plain "com/example/packet_radio_link/packetradiolink/frame/AddressIsCallSignCharacterPinLaw" (some 0) with
  accessFlags := 49
  interfaces := #[]
  cf := some (fileOf pool1 22 #[] #[{ accessFlags := 1, nameIndex := 5, descriptorIndex := 6, attributes := #[] }, { accessFlags := 10, nameIndex := 25, descriptorIndex := 20, attributes := #[] }, { accessFlags := 10, nameIndex := 28, descriptorIndex := 20, attributes := #[] }, { accessFlags := 9, nameIndex := 32, descriptorIndex := 33, attributes := #[] }] 49 2 #[] #[])
  fields := #[]
  methods := #[k1m0, k1m1, k1m2, k1m3]
  instanceTypes := #[]
  staticTypes := #[]
  resolved := Array.replicate 36 none
  statics := none }

def pool2 : Array CpInfo := pool [(2, .class_ 4), (1, u "java/lang/Object"), (12, .class_ 18), (0, u "com/example/packet_radio_link/packetradiolink/frame/Address"), (10, u "isCallSignCharacter"), (0, u "(I)Z"), (18, u "characters"), (0, u "J"), (2, u "ssid"), (0, u "I"), (72, u "MAX_CALL_SIGN_LENGTH"), (2, u "MAX_SSID")] 50

def k2c0 : Code := { maxStack := 2, maxLocals := 1, code := prog_1_method_4_code, exceptionTable := #[], attributes := #[] }
def k2m0 : Method := { name := "isCallSignCharacter", desc := "(I)Z", sig := { parameters := [.int], returnType := some .boolean }, accessFlags := 8, code := some k2c0 }
/-- com/example/packet_radio_link/packetradiolink/frame/Address -/
def k2 : Class := { plain "com/example/packet_radio_link/packetradiolink/frame/Address" (some 0) with
  accessFlags := 49
  interfaces := #[]
  cf := some (fileOf pool2 17 #[] #[{ accessFlags := 8, nameIndex := 29, descriptorIndex := 30, attributes := #[] }] 49 2 #[] #[{ accessFlags := 25, nameIndex := 127, descriptorIndex := 54, attributes := #[] }, { accessFlags := 25, nameIndex := 130, descriptorIndex := 54, attributes := #[] }, { accessFlags := 18, nameIndex := 49, descriptorIndex := 50, attributes := #[] }, { accessFlags := 18, nameIndex := 53, descriptorIndex := 54, attributes := #[] }])
  fields := #[{ name := "MAX_CALL_SIGN_LENGTH", type := .int, accessFlags := 25, slot := 0, constantValue := 0 }, { name := "MAX_SSID", type := .int, accessFlags := 25, slot := 1, constantValue := 0 }, { name := "characters", type := .long, accessFlags := 18, slot := 0, constantValue := 0 }, { name := "ssid", type := .int, accessFlags := 18, slot := 1, constantValue := 0 }]
  methods := #[k2m0]
  instanceTypes := #[.long, .int]
  staticTypes := #[.int, .int]
  resolved := Array.replicate 181 none
  statics := none }

def pool3 : Array CpInfo := pool [(1, u "java/lang/Cloneable"), (0, .class_ 1), (0, u "java/lang/Object"), (0, .class_ 3)] 3

/-- java/lang/Cloneable -/
def k3 : Class := { plain "java/lang/Cloneable" (some 0) with
  accessFlags := 1537
  interfaces := #[]
  cf := some (fileOf pool3 2 #[] #[] 1537 4 #[] #[])
  fields := #[]
  methods := #[]
  instanceTypes := #[]
  staticTypes := #[]
  resolved := Array.replicate 8 none
  statics := none }

def pool4 : Array CpInfo := pool [(1, u "java/io/Serializable"), (0, .class_ 1), (0, u "java/lang/Object"), (0, .class_ 3)] 3

/-- java/io/Serializable -/
def k4 : Class := { plain "java/io/Serializable" (some 0) with
  accessFlags := 1537
  interfaces := #[]
  cf := some (fileOf pool4 2 #[] #[] 1537 4 #[] #[])
  fields := #[]
  methods := #[]
  instanceTypes := #[]
  staticTypes := #[]
  resolved := Array.replicate 8 none
  statics := none }

/-- the primitive byte -/
def k5 : Class := { plain "byte" none with kind := .primitive 'B', accessFlags := 0x411 }
/-- [B -/
def k6 : Class := { plain "[B" (some 0) with kind := .array 5 .byte, interfaces := #[3, 4], accessFlags := 1041 }

def heap : Heap := #[]
def classes : Array Class := #[k0, k1, k2, k3, k4, k5, k6]
def interned : List (Array UInt16 × Addr) := []
def slotsUsed : Nat := 0
def theMethod : MethodId := ⟨1, 3⟩
def args0 : Array Value := #[.int 5, .int 300]
def aboutOver (below : List Frame) : State where
  vm := { classes := classes, interned := interned.toArray }
  heap := heap
  slotsUsed := slotsUsed
  threads := #[{ frames := .invoking theMethod args0 :: below }]
def below0 : List Frame := [.native { method := ⟨0, 0⟩, args := #[] }]
def about1 : State := aboutOver below0
def p0 : Program := .bare "" "" ""
def e0 : Env := launch0.env 0 0 0
theorem w_frames : about1.frames = Frame.invoking theMethod args0 :: below0 := rfl
set_option maxRecDepth 65536 in
theorem w_args : argsFit about1.vm theMethod args0 = true := by decide +kernel
set_option maxRecDepth 65536 in
theorem w_heap : heapFits about1 = true := by decide +kernel
set_option maxRecDepth 65536 in
theorem w_runnable : about1.curStatus? = some .runnable := by decide +kernel
set_option maxRecDepth 65536 in
theorem w_alone : about1.alone = true := by decide +kernel
set_option maxRecDepth 65536 in
theorem w_named : about1.methodNamed? x = some theMethod := by decide +kernel
set_option maxRecDepth 65536 in
theorem w_hears : about1.hears theMethod below0 = true := by decide +kernel
set_option maxRecDepth 65536 in
theorem w_ripe : about1.ripe theMethod args0 below0 = true := by decide +kernel
theorem w_running : about1.status = .running := rfl
set_option maxRecDepth 65536 in
theorem w_room : about1.hasRoom e0.platform room_1 = true :=
  launch0.hasRoom_least _ room_1 (by decide +kernel) (by decide +kernel) (by decide +kernel) (by decide +kernel) (by decide +kernel) (by decide +kernel)
theorem allAtoms_all (ts : List Jvm.Cond) (a : Array Jvm.Value) (st : Jvm.State) : (allAtoms ts).before a st = ts.all (fun c => c.before a st) := by
  induction ts with
  | nil => rfl
  | cons c t ih =>
    show (Jvm.Cond.and c (allAtoms t)).before a st = _
    rw [Jvm.Cond.before_and, ih, List.all_cons]
def words1 : List Jvm.Cond := Jvm.Cond.code x code maxLocals ret :: tables_1
/-- a 'code' word, met by the world's own term for the bytes: nothing is compared byte by byte -/
theorem code_word {y : MethodName} {bytes : ByteArray} {mx : Nat} {rt : Option FieldType} {a : Array Value} {s : State} {m : MethodId} {meth : Method} {c : Code} (h1 : s.methodNamed? y = some m) (h2 : s.vm.method? m = some meth) (h3 : meth.code = some c) (h4 : c.code = bytes)
    (h5 : (c.maxLocals == mx && c.exceptionTable.isEmpty && decide (c.maxStack ≤ mostOperands) && decide (meth.sig.returnType = rt) && !meth.locks && decide (parseMethodDescriptor y.desc = some meth.sig)) = true) : (Jvm.Cond.code y bytes mx rt).before a s = true := by
  simp only [Bool.and_eq_true, beq_iff_eq, Bool.not_eq_true', decide_eq_true_eq] at h5
  obtain ⟨⟨⟨⟨⟨g1, g2⟩, g3⟩, g4⟩, g5⟩, g6⟩ := h5
  simp [Cond.before, Cond.holds, Cond.value, h1, h2, h3, h4, g1, g2, g3, g4, g5, g6]
def isCode : Jvm.Cond → Bool
  | .code _ _ _ _ => true
  | _ => false
theorem all_split {L : List Jvm.Cond} {P : Jvm.Cond → Bool} (h1 : L.all (fun c => isCode c || P c) = true) (h2 : ∀ c ∈ L.filter isCode, P c = true) : L.all P = true := by
  refine List.all_eq_true.mpr fun c hc => ?_
  have h := List.all_eq_true.mp h1 c hc
  rcases Bool.eq_false_or_eq_true (isCode c) with hi | hi
  · exact h2 c (List.mem_filter.mpr ⟨hc, hi⟩)
  · simpa [hi] using h
set_option maxRecDepth 65536 in
theorem w_c0 : (Jvm.Cond.code x code maxLocals ret).before args0 about1 = true := code_word (m := ⟨1, 3⟩) (meth := k1m3) (c := k1c3) (by decide +kernel) rfl rfl rfl (by decide +kernel)
set_option maxRecDepth 65536 in
theorem w_c1 : (Jvm.Cond.code ({ cls := "com/example/packet_radio_link/packetradiolink/frame/AddressIsCallSignCharacterPinLaw", name := "agrees", desc := "(I)Z" } : Jvm.MethodName) method_3_code (1 : Nat) (Option.some Jvm.ClassFile.FieldType.boolean)).before args0 about1 = true := code_word (m := ⟨1, 2⟩) (meth := k1m2) (c := k1c2) (by decide +kernel) rfl rfl rfl (by decide +kernel)
set_option maxRecDepth 65536 in
theorem w_c2 : (Jvm.Cond.code ({ cls := "com/example/packet_radio_link/packetradiolink/frame/Address", name := "isCallSignCharacter", desc := "(I)Z" } : Jvm.MethodName) prog_1_method_4_code (1 : Nat) (Option.some Jvm.ClassFile.FieldType.boolean)).before args0 about1 = true := code_word (m := ⟨2, 0⟩) (meth := k2m0) (c := k2c0) (by decide +kernel) rfl rfl rfl (by decide +kernel)
set_option maxRecDepth 65536 in
theorem w_c3 : (Jvm.Cond.code ({ cls := "com/example/packet_radio_link/packetradiolink/frame/AddressIsCallSignCharacterPinLaw", name := "ref", desc := "(I)Z" } : Jvm.MethodName) method_2_code (7 : Nat) (Option.some Jvm.ClassFile.FieldType.boolean)).before args0 about1 = true := code_word (m := ⟨1, 1⟩) (meth := k1m1) (c := k1c1) (by decide +kernel) rfl rfl rfl (by decide +kernel)
def codes1 : List Jvm.Cond := [Jvm.Cond.code x code maxLocals ret, Jvm.Cond.code ({ cls := "com/example/packet_radio_link/packetradiolink/frame/AddressIsCallSignCharacterPinLaw", name := "agrees", desc := "(I)Z" } : Jvm.MethodName) method_3_code (1 : Nat) (Option.some Jvm.ClassFile.FieldType.boolean), Jvm.Cond.code ({ cls := "com/example/packet_radio_link/packetradiolink/frame/Address", name := "isCallSignCharacter", desc := "(I)Z" } : Jvm.MethodName) prog_1_method_4_code (1 : Nat) (Option.some Jvm.ClassFile.FieldType.boolean), Jvm.Cond.code ({ cls := "com/example/packet_radio_link/packetradiolink/frame/AddressIsCallSignCharacterPinLaw", name := "ref", desc := "(I)Z" } : Jvm.MethodName) method_2_code (7 : Nat) (Option.some Jvm.ClassFile.FieldType.boolean)]
set_option maxRecDepth 65536 in
theorem codes_eq : words1.filter isCode = codes1 := rfl
theorem w_codes : ∀ c ∈ words1.filter isCode, c.before args0 about1 = true := by
  rw [codes_eq]
  intro c hc
  simp only [codes1, List.mem_cons, List.not_mem_nil, or_false] at hc
  rcases hc with rfl | rfl | rfl | rfl
  · exact w_c0
  · exact w_c1
  · exact w_c2
  · exact w_c3
set_option maxRecDepth 65536 in
theorem w_t1 : words1.all (fun c => isCode c || c.before args0 about1) = true := by decide +kernel
theorem w_tables : (allAtoms (Jvm.Cond.code x code maxLocals ret :: tables_1)).before args0 about1 = true := by
  rw [allAtoms_all]
  show words1.all (fun c => c.before args0 about1) = true
  refine all_split ?_ w_codes
  rw [w_t1]
set_option maxRecDepth 65536 in
theorem w_case : (Jvm.Cond.and given_1 narrow_1).before args0 about1 = true := by decide +kernel
theorem w_applies : (headSpec (Jvm.Cond.code x code maxLocals ret :: tables_1) room_1).applies x e0.platform about1 = true :=
  (Spec.applies_iff w_frames).mpr ⟨w_running, w_runnable, w_alone, w_named, w_hears, w_ripe, w_room, w_tables⟩
theorem atStart : AtStart classFile x code maxLocals ret World_1 tables_1 room_1 Calls_1 rest_1 Pre_1 launch0 p0 e0 about1 theMethod args0 below0 :=
  ⟨lists_1, trivial, launch0.admits_env _ _ _, launch0.least_env, fairChoices_fair.cas, fairChoices_fair.clock, w_frames, w_args, w_heap, w_applies, trivial, trivial, w_case⟩
end start1
theorem witness_1 : WitnessClaimed_1 := ⟨start1.p0, start1.e0, start1.about1, start1.theMethod, start1.args0, start1.below0, start1.atStart⟩
end Jvm.Pilot.@@N@@
