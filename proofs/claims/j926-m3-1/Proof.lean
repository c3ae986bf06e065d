import JvmDerived
import JvmDerived.Pilot.@@N@@Statement
import JvmDerived.Pilot.@@N@@Code
set_option linter.unusedVariables false
set_option linter.unusedSimpArgs false
namespace Jvm.Pilot.@@N@@
open Jvm Jvm.ClassFile Sem Op Lib Jvm.Free Jvm.Stand Jvm.LawKit Jvm.RoadKit Bundle Jvm.Pilot.@@N@@.Jvm.D
theorem d1_0 : decode prog_2_method_4_code 0 = .ok (.iload_n 0, 1) := by decide +kernel
theorem d1_1 : decode prog_2_method_4_code 1 = .ok (.iload_n 1, 1) := by decide +kernel
theorem d1_2 : decode prog_2_method_4_code 2 = .ok (.if_icmp .ne 7, 3) := by decide +kernel
theorem d1_5 : decode prog_2_method_4_code 5 = .ok (.getstatic 10, 3) := by decide +kernel
theorem d1_8 : decode prog_2_method_4_code 8 = .ok (.areturn, 1) := by decide +kernel
theorem d1_9 : decode prog_2_method_4_code 9 = .ok (.iload_n 0, 1) := by decide +kernel
theorem d1_10 : decode prog_2_method_4_code 10 = .ok (.ifCond .eq 9, 3) := by decide +kernel
theorem d1_19 : decode prog_2_method_4_code 19 = .ok (.getstatic 7, 3) := by decide +kernel
theorem d1_22 : decode prog_2_method_4_code 22 = .ok (.areturn, 1) := by decide +kernel
theorem d1_13 : decode prog_2_method_4_code 13 = .ok (.getstatic 3, 3) := by decide +kernel
theorem d1_16 : decode prog_2_method_4_code 16 = .ok (.goto 6, 3) := by decide +kernel
theorem pn_11 : plainName "com/example/packet_radio_link/packetradiolink/frame/CommandResponse" = true := by first | (simp [plainName, overriddenIn]; done) | decide +kernel
theorem ef_rm1 (m : MethodId) (x0 : Int32) (x1 : Int32) : entryFrame m #[(.int x0), (.int x1)] 2 = mkF m 0 #[.val (.int x0), .val (.int x1)] [] := by first | (simp [entryFrame, mkF, argsToLocals, Value.category]; done) | rfl
def own_of (vx : Int32) (vy : Int32) (a_OLDER_VERSION : Addr) (a_RESPONSE : Addr) (a_COMMAND : Addr) : Addr := (if vx = vy then a_OLDER_VERSION else (if vx = (0 : Int32) then a_RESPONSE else a_COMMAND))
def Q1 (Z : State) (vx : Int32) (vy : Int32) (a_OLDER_VERSION : Addr) (a_RESPONSE : Addr) (a_COMMAND : Addr) (h0 : Heap) (n0 : Nat) (v : Option Value) (h : Heap) (L : List Loc) : Prop := v = some (.ref (own_of vx vy a_OLDER_VERSION a_RESPONSE a_COMMAND)) ∧ Fr n0 L ∧ h = h0
set_option maxRecDepth 65536 in
set_option maxHeartbeats 40000000 in
theorem rm1 (l : Launch) (Z : State) (a0 : Array Value) (hw : ∀ d ∈ tables_1, d.before a0 Z = true) (ws : List Jvm.Cond) (vx : Int32) (vy : Int32) (a_OLDER_VERSION : Addr) (a_RESPONSE : Addr) (a_COMMAND : Addr) (h0 : Heap) (n0 : Nat) (Z0 : n0 ≤ h0.size) (S_OLDER_VERSION : Sta Z h0 "com/example/packet_radio_link/packetradiolink/frame/CommandResponse" "OLDER_VERSION" "Lcom/example/packet_radio_link/packetradiolink/frame/CommandResponse;" (.ref a_OLDER_VERSION)) (S_RESPONSE : Sta Z h0 "com/example/packet_radio_link/packetradiolink/frame/CommandResponse" "RESPONSE" "Lcom/example/packet_radio_link/packetradiolink/frame/CommandResponse;" (.ref a_RESPONSE)) (S_COMMAND : Sta Z h0 "com/example/packet_radio_link/packetradiolink/frame/CommandResponse" "COMMAND" "Lcom/example/packet_radio_link/packetradiolink/frame/CommandResponse;" (.ref a_COMMAND)) :
    MetFree l (⟨"com/example/packet_radio_link/packetradiolink/frame/CommandResponse", "of", "(ZZ)Lcom/example/packet_radio_link/packetradiolink/frame/CommandResponse;"⟩ : MethodName) (head1 (Jvm.Cond.code (⟨"com/example/packet_radio_link/packetradiolink/frame/CommandResponse", "of", "(ZZ)Lcom/example/packet_radio_link/packetradiolink/frame/CommandResponse;"⟩ : MethodName) prog_2_method_4_code 2 (some (.object "com/example/packet_radio_link/packetradiolink/frame/CommandResponse")) :: ws) ({ frames := 0, cells := 0, slots := 0, locals := 0 } : Room)) (fun a U => a = #[(.int vx), (.int vy)] ∧ Z.Warmed39 U.vm ∧ U.heap = h0) (fun _ _ _ _ _ => True) (fun _ U o U' => ∃ v L, o = .returned v ∧ Q1 Z vx vy a_OLDER_VERSION a_RESPONSE a_COMMAND h0 n0 v U'.heap L ∧ FrameEnd U o U' L ({ frames := 0, cells := 0, slots := 0, locals := 0 } : Room).cells ({ frames := 0, cells := 0, slots := 0, locals := 0 } : Room).slots) := by
  refine MetFree.of_bodySF (plainFor_of_name pn_11) hisR ?_
  intro p e s m args below meth c s₁ Bd hml0 hP hK
  obtain ⟨rfl, hZ, hh⟩ := hP
  have hx := Bd.exec
  have hby := Bd.bytes
  have hml : c.maxLocals = 2 := hml0
  have hown : s.vm.findClass "com/example/packet_radio_link/packetradiolink/frame/CommandResponse" = some m.cls := findClass_of_methodNamed Bd.named
  have hnm := (name_of_methodNamed Bd.named Bd.method).1
  have X0 : Stand p l e ({ frames := 0, cells := 0, slots := 0, locals := 0 } : Room) s m #[(.int vx), (.int vy)] below meth c s₁ [] 0 0 := Stand.of_body Bd
  have e0 : s₁.heap = h0 := by rw [← hh, Bd.state]; rfl
  have N0 := Fr.nil n0
  have pre0 : ∀ t, Steps p.tables e below (s₁.setTop (mkF m 0 #[.val (.int vx), .val (.int vy)] [])) t → Steps p.tables e below (s₁.setTop (entryFrame m #[(.int vx), (.int vy)] 2)) t := fun t k => castTop (ef_rm1 m vx vy) k
  have pre1 : ∀ t, Steps p.tables e below (s₁.setTop (mkF m 2 #[.val (.int vx), .val (.int vy)] [(.int vy), (.int vx)])) t → Steps p.tables e below (s₁.setTop (entryFrame m #[(.int vx), (.int vy)] 2)) t := by
    intro t kt
    refine pre0 t ?_
    show Steps p.tables e below (s₁.setTop (mkF m 0 #[.val (.int vx), .val (.int vy)] [])) _
    refine XS.iloadN X0.here hx rfl (hb hby d1_0) rfl ?_
    show Steps p.tables e below (s₁.setTop (mkF m 1 #[.val (.int vx), .val (.int vy)] [(.int vx)])) _
    refine XS.iloadN X0.here hx rfl (hb hby d1_1) rfl ?_
    exact kt
  by_cases hc2 : vx = vy
  ·
    obtain ⟨T3, X3, e3, st3⟩ := getS2 X0 hx hZ hown (host := "") (Or.inl (hw _ (List.mem_of_getElem? (i := 4) rfl))) Via.refl e0 S_OLDER_VERSION (g := (mkF m 5 #[.val (.int vx), .val (.int vy)] [])) rfl (hb hby d1_5)
    obtain ⟨fs, hr, hrun, hended, hW, hsame⟩ := X3.leave (v := some (.ref a_OLDER_VERSION)) (fun h => by rw [Bd.returns] at h; cases h)
    refine ⟨_, _, pre1 _ ?_, hrun, hended, _, _, rfl, ?_, ⟨_, rfl⟩, hW, hsame.mono (by decide) (by decide)⟩
    ·
      show Steps p.tables e below (s₁.setTop (mkF m 2 #[.val (.int vx), .val (.int vy)] [(.int vy), (.int vx)])) _
      refine XS.icmpNo X0.here hx rfl (hb hby d1_2) rfl (teq (hc2 : vx = vy)).2 ?_
      show Steps p.tables e below (s₁.setTop (mkF m 5 #[.val (.int vx), .val (.int vy)] [])) _
      refine st3 _ ?_
      show Steps p.tables e below (T3.setTop (mkF m 8 #[.val (.int vx), .val (.int vy)] [(.ref a_OLDER_VERSION)])) _
      exact retOut X3 hx (t := (.object "com/example/packet_radio_link/packetradiolink/frame/CommandResponse")) (i := .areturn) Bd.returns rfl (Or.inr (Or.inr (Or.inr (Or.inr ⟨rfl, rfl, rfl⟩)))) (hb hby d1_8) hr
    ·
      show Q1 Z vx vy a_OLDER_VERSION a_RESPONSE a_COMMAND h0 n0 _ T3.heap _
      rw [e3]
      have hv : a_OLDER_VERSION = (own_of vx vy a_OLDER_VERSION a_RESPONSE a_COMMAND) := by rw [own_of, if_pos hc2]
      exact ⟨(congrArg (fun z => some (Value.ref z)) hv), N0, rfl⟩
  ·
    have pre4 : ∀ t, Steps p.tables e below (s₁.setTop (mkF m 10 #[.val (.int vx), .val (.int vy)] [(.int vx)])) t → Steps p.tables e below (s₁.setTop (entryFrame m #[(.int vx), (.int vy)] 2)) t := by
      intro t kt
      refine pre1 t ?_
      show Steps p.tables e below (s₁.setTop (mkF m 2 #[.val (.int vx), .val (.int vy)] [(.int vy), (.int vx)])) _
      refine XS.icmpYes X0.here hx rfl (pc0 := 2) (pc' := 9) rfl (hb hby d1_2) rfl (feq (hc2 : ¬ (vx = vy))).2 (by decide) (by decide) ?_
      show Steps p.tables e below (s₁.setTop (mkF m 9 #[.val (.int vx), .val (.int vy)] [])) _
      refine XS.iloadN X0.here hx rfl (hb hby d1_9) rfl ?_
      exact kt
    by_cases hc5 : vx = (0 : Int32)
    ·
      obtain ⟨T6, X6, e6, st6⟩ := getS2 X0 hx hZ hown (host := "") (Or.inl (hw _ (List.mem_of_getElem? (i := 7) rfl))) Via.refl e0 S_RESPONSE (g := (mkF m 19 #[.val (.int vx), .val (.int vy)] [])) rfl (hb hby d1_19)
      obtain ⟨fs, hr, hrun, hended, hW, hsame⟩ := X6.leave (v := some (.ref a_RESPONSE)) (fun h => by rw [Bd.returns] at h; cases h)
      refine ⟨_, _, pre4 _ ?_, hrun, hended, _, _, rfl, ?_, ⟨_, rfl⟩, hW, hsame.mono (by decide) (by decide)⟩
      ·
        show Steps p.tables e below (s₁.setTop (mkF m 10 #[.val (.int vx), .val (.int vy)] [(.int vx)])) _
        refine XS.ifYes X0.here hx rfl (pc0 := 10) (pc' := 19) rfl (hb hby d1_10) rfl ((if0 _ _).trans (teq (hc5 : vx = (0 : Int32))).1) (by decide) (by decide) ?_
        show Steps p.tables e below (s₁.setTop (mkF m 19 #[.val (.int vx), .val (.int vy)] [])) _
        refine st6 _ ?_
        show Steps p.tables e below (T6.setTop (mkF m 22 #[.val (.int vx), .val (.int vy)] [(.ref a_RESPONSE)])) _
        exact retOut X6 hx (t := (.object "com/example/packet_radio_link/packetradiolink/frame/CommandResponse")) (i := .areturn) Bd.returns rfl (Or.inr (Or.inr (Or.inr (Or.inr ⟨rfl, rfl, rfl⟩)))) (hb hby d1_22) hr
      ·
        show Q1 Z vx vy a_OLDER_VERSION a_RESPONSE a_COMMAND h0 n0 _ T6.heap _
        rw [e6]
        have hv : a_RESPONSE = (own_of vx vy a_OLDER_VERSION a_RESPONSE a_COMMAND) := by rw [own_of, if_neg hc2, if_pos hc5]
        exact ⟨(congrArg (fun z => some (Value.ref z)) hv), N0, rfl⟩
    ·
      obtain ⟨T7, X7, e7, st7⟩ := getS2 X0 hx hZ hown (host := "") (Or.inl (hw _ (List.mem_of_getElem? (i := 10) rfl))) Via.refl e0 S_COMMAND (g := (mkF m 13 #[.val (.int vx), .val (.int vy)] [])) rfl (hb hby d1_13)
      obtain ⟨fs, hr, hrun, hended, hW, hsame⟩ := X7.leave (v := some (.ref a_COMMAND)) (fun h => by rw [Bd.returns] at h; cases h)
      refine ⟨_, _, pre4 _ ?_, hrun, hended, _, _, rfl, ?_, ⟨_, rfl⟩, hW, hsame.mono (by decide) (by decide)⟩
      ·
        show Steps p.tables e below (s₁.setTop (mkF m 10 #[.val (.int vx), .val (.int vy)] [(.int vx)])) _
        refine XS.ifNo X0.here hx rfl (hb hby d1_10) rfl ((if0 _ _).trans (feq (hc5 : ¬ (vx = (0 : Int32)))).1) ?_
        show Steps p.tables e below (s₁.setTop (mkF m 13 #[.val (.int vx), .val (.int vy)] [])) _
        refine st7 _ ?_
        show Steps p.tables e below (T7.setTop (mkF m 16 #[.val (.int vx), .val (.int vy)] [(.ref a_COMMAND)])) _
        refine XS.goto X7.here hx rfl (pc0 := 16) (pc' := 22) rfl (hb hby d1_16) (by decide) (by decide) ?_
        show Steps p.tables e below (T7.setTop (mkF m 22 #[.val (.int vx), .val (.int vy)] [(.ref a_COMMAND)])) _
        exact retOut X7 hx (t := (.object "com/example/packet_radio_link/packetradiolink/frame/CommandResponse")) (i := .areturn) Bd.returns rfl (Or.inr (Or.inr (Or.inr (Or.inr ⟨rfl, rfl, rfl⟩)))) (hb hby d1_22) hr
      ·
        show Q1 Z vx vy a_OLDER_VERSION a_RESPONSE a_COMMAND h0 n0 _ T7.heap _
        rw [e7]
        have hv : a_COMMAND = (own_of vx vy a_OLDER_VERSION a_RESPONSE a_COMMAND) := by rw [own_of, if_neg hc2, if_neg hc5]
        exact ⟨(congrArg (fun z => some (Value.ref z)) hv), N0, rfl⟩
theorem pd_0 : parseMethodDescriptor "(ZZ)Lcom/example/packet_radio_link/packetradiolink/frame/CommandResponse;" = some ⟨[.boolean, .boolean], some (.object "com/example/packet_radio_link/packetradiolink/frame/CommandResponse")⟩ := by decide +kernel
theorem pn_12 : plainName "com/example/packet_radio_link/packetradiolink/frame/CommandResponseOfPinLaw" = true := by first | (simp [plainName, overriddenIn]; done) | decide +kernel
theorem ef_rm0 (m : MethodId) (x0 : Int32) : entryFrame m #[(.int x0)] maxLocals = mkF m 0 #[.val (.int x0), .unset, .unset, .unset, .unset] [] := by first | (simp [entryFrame, mkF, argsToLocals, Value.category, maxLocals]; done) | rfl
def Q0 (Z : State) (vk : Int32) (a_OLDER_VERSION : Addr) (a_RESPONSE : Addr) (a_COMMAND : Addr) (h0 : Heap) (n0 : Nat) (v : Option Value) (h : Heap) (L : List Loc) : Prop := v = some (.int (1 : Int32)) ∧ Fr n0 L
set_option maxRecDepth 65536 in
set_option maxHeartbeats 40000000 in
theorem rm0 (l : Launch) (Z : State) (a0 : Array Value) (hw : ∀ d ∈ tables_1, d.before a0 Z = true) (ws : List Jvm.Cond) (vk : Int32) (a_OLDER_VERSION : Addr) (a_RESPONSE : Addr) (a_COMMAND : Addr) (h0 : Heap) (n0 : Nat) (Z0 : n0 ≤ h0.size) (S_OLDER_VERSION : Sta Z h0 "com/example/packet_radio_link/packetradiolink/frame/CommandResponse" "OLDER_VERSION" "Lcom/example/packet_radio_link/packetradiolink/frame/CommandResponse;" (.ref a_OLDER_VERSION)) (S_RESPONSE : Sta Z h0 "com/example/packet_radio_link/packetradiolink/frame/CommandResponse" "RESPONSE" "Lcom/example/packet_radio_link/packetradiolink/frame/CommandResponse;" (.ref a_RESPONSE)) (S_COMMAND : Sta Z h0 "com/example/packet_radio_link/packetradiolink/frame/CommandResponse" "COMMAND" "Lcom/example/packet_radio_link/packetradiolink/frame/CommandResponse;" (.ref a_COMMAND)) :
    MetFree l x (head1 (Jvm.Cond.code x code maxLocals ret :: ws) room_1) (fun a U => a = #[(.int vk)] ∧ Z.Warmed39 U.vm ∧ U.heap = h0) (fun _ _ _ _ _ => True) (fun _ U o U' => ∃ v L, o = .returned v ∧ Q0 Z vk a_OLDER_VERSION a_RESPONSE a_COMMAND h0 n0 v U'.heap L ∧ FrameEnd U o U' L room_1.cells room_1.slots) := by
  refine MetFree.of_bodySF (plainFor_of_name pn_12) hisR ?_
  intro p e s m args below meth c s₁ Bd hml0 hP hK
  obtain ⟨rfl, hZ, hh⟩ := hP
  have hx := Bd.exec
  have hby := Bd.bytes
  have hml : c.maxLocals = 5 := hml0
  have hown : s.vm.findClass "com/example/packet_radio_link/packetradiolink/frame/CommandResponseOfPinLaw" = some m.cls := findClass_of_methodNamed Bd.named
  have hnm := (name_of_methodNamed Bd.named Bd.method).1
  have X0 : Stand p l e room_1 s m #[(.int vk)] below meth c s₁ [] 0 0 := Stand.of_body Bd
  have e0 : s₁.heap = h0 := by rw [← hh, Bd.state]; rfl
  have N0 := Fr.nil n0
  have pre0 : ∀ t, Steps p.tables e below (s₁.setTop (mkF m 0 #[.val (.int vk), .unset, .unset, .unset, .unset] [])) t → Steps p.tables e below (s₁.setTop (entryFrame m #[(.int vk)] maxLocals)) t := fun t k => castTop (ef_rm0 m vk) k
  have pre1 : ∀ t, Steps p.tables e below (s₁.setTop (mkF m 3 #[.val (.int vk), .unset, .unset, .unset, .unset] [(.int (vk &&& (1 : Int32)))])) t → Steps p.tables e below (s₁.setTop (entryFrame m #[(.int vk)] maxLocals)) t := by
    intro t kt
    refine pre0 t ?_
    show Steps p.tables e below (s₁.setTop (mkF m 0 #[.val (.int vk), .unset, .unset, .unset, .unset] [])) _
    refine XS.iloadN X0.here hx rfl (hb hby at_0) rfl ?_
    show Steps p.tables e below (s₁.setTop (mkF m 1 #[.val (.int vk), .unset, .unset, .unset, .unset] [(.int vk)])) _
    refine XS.iconst X0.here hx rfl (hb hby at_1) ?_
    show Steps p.tables e below (s₁.setTop (mkF m 2 #[.val (.int vk), .unset, .unset, .unset, .unset] [(.int (1 : Int32)), (.int vk)])) _
    refine XS.iand X0.here hx rfl (hb hby at_2) rfl ?_
    exact kt
  by_cases hc2 : (vk &&& (1 : Int32)) = (0 : Int32)
  ·
    have pre3 : ∀ t, Steps p.tables e below (s₁.setTop (mkF m 15 #[.val (.int vk), .val (.int (0 : Int32)), .unset, .unset, .unset] [(.int (vk &&& (2 : Int32)))])) t → Steps p.tables e below (s₁.setTop (entryFrame m #[(.int vk)] maxLocals)) t := by
      intro t kt
      refine pre1 t ?_
      show Steps p.tables e below (s₁.setTop (mkF m 3 #[.val (.int vk), .unset, .unset, .unset, .unset] [(.int (vk &&& (1 : Int32)))])) _
      refine XS.ifYes X0.here hx rfl (pc0 := 3) (pc' := 10) rfl (hb hby at_3) rfl ((if0 _ _).trans (teq (hc2 : (vk &&& (1 : Int32)) = (0 : Int32))).1) (by decide) (by decide) ?_
      show Steps p.tables e below (s₁.setTop (mkF m 10 #[.val (.int vk), .unset, .unset, .unset, .unset] [])) _
      refine XS.iconst X0.here hx rfl (hb hby at_10) ?_
      show Steps p.tables e below (s₁.setTop (mkF m 11 #[.val (.int vk), .unset, .unset, .unset, .unset] [(.int (0 : Int32))])) _
      refine XS.istoreN X0.here hx rfl (hb hby at_11) rfl (l' := #[.val (.int vk), .val (.int (0 : Int32)), .unset, .unset, .unset]) rfl ?_
      show Steps p.tables e below (s₁.setTop (mkF m 12 #[.val (.int vk), .val (.int (0 : Int32)), .unset, .unset, .unset] [])) _
      refine XS.iloadN X0.here hx rfl (hb hby at_12) rfl ?_
      show Steps p.tables e below (s₁.setTop (mkF m 13 #[.val (.int vk), .val (.int (0 : Int32)), .unset, .unset, .unset] [(.int vk)])) _
      refine XS.iconst X0.here hx rfl (hb hby at_13) ?_
      show Steps p.tables e below (s₁.setTop (mkF m 14 #[.val (.int vk), .val (.int (0 : Int32)), .unset, .unset, .unset] [(.int (2 : Int32)), (.int vk)])) _
      refine XS.iand X0.here hx rfl (hb hby at_14) rfl ?_
      exact kt
    by_cases hc4 : (vk &&& (2 : Int32)) = (0 : Int32)
    ·
      obtain ⟨_, _, ⟨T5, L5, k5, n5⟩, -, X5, ⟨Lc5, hQ5, l5, y5, z5⟩, st5⟩ := Jvm.LawKit.callS X0 hx (y := (⟨"com/example/packet_radio_link/packetradiolink/frame/CommandResponse", "of", "(ZZ)Lcom/example/packet_radio_link/packetradiolink/frame/CommandResponse;"⟩ : MethodName)) hown (mvT hZ (hw _ (List.mem_of_getElem? (i := 0) rfl))) (mvT hZ (hw _ (List.mem_of_getElem? (i := 1) rfl))) (mvT hZ (hw _ (List.mem_of_getElem? (i := 2) rfl))) (mvT hZ (hw _ (List.mem_of_getElem? (i := 3) rfl))) (by decide) (backOf (W := 0) (rm1 l Z a0 hw [] (0 : Int32) (0 : Int32) a_OLDER_VERSION a_RESPONSE a_COMMAND h0 n0 Z0 S_OLDER_VERSION S_RESPONSE S_COMMAND) hZ (hw _ (List.mem_of_getElem? (i := 3) rfl)) (hw _ (List.mem_of_getElem? (i := 2) rfl)) (by decide) (by decide)) (g := (mkF m 26 #[.val (.int vk), .val (.int (0 : Int32)), .val (.int (0 : Int32)), .unset, .unset] [(.int (0 : Int32)), (.int (0 : Int32))])) rfl (by rw [hml]; rfl) (argsL := [(.int (0 : Int32)), (.int (0 : Int32))]) (rest := []) (lenOf pd_0 rfl) rfl (by show 2 * 0 + _ ≤ _; exact Nat.le_of_eq rfl) (hb hby at_26) (fun _ _ => ⟨rfl, e0, (by decide : 0 + 0 ≤ _), (by decide : 0 + 0 ≤ _)⟩)
      dsimp only [Pt.U, Pt.locs, Pt.cells, Pt.slots] at X5 l5 y5 z5 st5 hQ5
      subst l5 y5 z5
      obtain ⟨rfl, N5q, e5q⟩ := hQ5
      have N5 := Fr.app N0 N5q
      obtain ⟨T6, X6, e6, st6⟩ := getS2 X5 hx hZ hown (host := "") (Or.inl (hw _ (List.mem_of_getElem? (i := 6) rfl))) Via.refl e5q S_OLDER_VERSION (g := (mkF m 66 #[.val (.int vk), .val (.int (0 : Int32)), .val (.int (0 : Int32)), .val (.ref (own_of (0 : Int32) (0 : Int32) a_OLDER_VERSION a_RESPONSE a_COMMAND)), .unset] [])) rfl (hb hby at_66)
      obtain ⟨fs, hr, hrun, hended, hW, hsame⟩ := X6.leave (v := some (.int (1 : Int32))) (fun h => by rw [Bd.returns] at h; cases h)
      refine ⟨_, _, pre3 _ ?_, hrun, hended, _, _, rfl, ?_, ⟨_, rfl⟩, hW, hsame.mono (by decide) (by decide)⟩
      ·
        show Steps p.tables e below (s₁.setTop (mkF m 15 #[.val (.int vk), .val (.int (0 : Int32)), .unset, .unset, .unset] [(.int (vk &&& (2 : Int32)))])) _
        refine XS.ifYes X0.here hx rfl (pc0 := 15) (pc' := 22) rfl (hb hby at_15) rfl ((if0 _ _).trans (teq (hc4 : (vk &&& (2 : Int32)) = (0 : Int32))).1) (by decide) (by decide) ?_
        show Steps p.tables e below (s₁.setTop (mkF m 22 #[.val (.int vk), .val (.int (0 : Int32)), .unset, .unset, .unset] [])) _
        refine XS.iconst X0.here hx rfl (hb hby at_22) ?_
        show Steps p.tables e below (s₁.setTop (mkF m 23 #[.val (.int vk), .val (.int (0 : Int32)), .unset, .unset, .unset] [(.int (0 : Int32))])) _
        refine XS.istoreN X0.here hx rfl (hb hby at_23) rfl (l' := #[.val (.int vk), .val (.int (0 : Int32)), .val (.int (0 : Int32)), .unset, .unset]) rfl ?_
        show Steps p.tables e below (s₁.setTop (mkF m 24 #[.val (.int vk), .val (.int (0 : Int32)), .val (.int (0 : Int32)), .unset, .unset] [])) _
        refine XS.iloadN X0.here hx rfl (hb hby at_24) rfl ?_
        show Steps p.tables e below (s₁.setTop (mkF m 25 #[.val (.int vk), .val (.int (0 : Int32)), .val (.int (0 : Int32)), .unset, .unset] [(.int (0 : Int32))])) _
        refine XS.iloadN X0.here hx rfl (hb hby at_25) rfl ?_
        show Steps p.tables e below (s₁.setTop (mkF m 26 #[.val (.int vk), .val (.int (0 : Int32)), .val (.int (0 : Int32)), .unset, .unset] [(.int (0 : Int32)), (.int (0 : Int32))])) _
        refine st5 _ ?_
        show Steps p.tables e below (T5.setTop (mkF m 29 #[.val (.int vk), .val (.int (0 : Int32)), .val (.int (0 : Int32)), .unset, .unset] [(.ref (own_of (0 : Int32) (0 : Int32) a_OLDER_VERSION a_RESPONSE a_COMMAND))])) _
        refine XS.astoreN X5.here hx rfl (hb hby at_29) rfl rfl (l' := #[.val (.int vk), .val (.int (0 : Int32)), .val (.int (0 : Int32)), .val (.ref (own_of (0 : Int32) (0 : Int32) a_OLDER_VERSION a_RESPONSE a_COMMAND)), .unset]) rfl ?_
        show Steps p.tables e below (T5.setTop (mkF m 30 #[.val (.int vk), .val (.int (0 : Int32)), .val (.int (0 : Int32)), .val (.ref (own_of (0 : Int32) (0 : Int32) a_OLDER_VERSION a_RESPONSE a_COMMAND)), .unset] [])) _
        refine XS.iloadN X5.here hx rfl (hb hby at_30) rfl ?_
        show Steps p.tables e below (T5.setTop (mkF m 31 #[.val (.int vk), .val (.int (0 : Int32)), .val (.int (0 : Int32)), .val (.ref (own_of (0 : Int32) (0 : Int32) a_OLDER_VERSION a_RESPONSE a_COMMAND)), .unset] [(.int (0 : Int32))])) _
        refine XS.ifYes X5.here hx rfl (pc0 := 31) (pc' := 54) rfl (hb hby at_31) rfl ((if0 _ _).trans (teq ((by decide) : (0 : Int32) = (0 : Int32))).1) (by decide) (by decide) ?_
        show Steps p.tables e below (T5.setTop (mkF m 54 #[.val (.int vk), .val (.int (0 : Int32)), .val (.int (0 : Int32)), .val (.ref (own_of (0 : Int32) (0 : Int32) a_OLDER_VERSION a_RESPONSE a_COMMAND)), .unset] [])) _
        refine XS.iloadN X5.here hx rfl (hb hby at_54) rfl ?_
        show Steps p.tables e below (T5.setTop (mkF m 55 #[.val (.int vk), .val (.int (0 : Int32)), .val (.int (0 : Int32)), .val (.ref (own_of (0 : Int32) (0 : Int32) a_OLDER_VERSION a_RESPONSE a_COMMAND)), .unset] [(.int (0 : Int32))])) _
        refine XS.ifYes X5.here hx rfl (pc0 := 55) (pc' := 66) rfl (hb hby at_55) rfl ((if0 _ _).trans (teq ((by decide) : (0 : Int32) = (0 : Int32))).1) (by decide) (by decide) ?_
        show Steps p.tables e below (T5.setTop (mkF m 66 #[.val (.int vk), .val (.int (0 : Int32)), .val (.int (0 : Int32)), .val (.ref (own_of (0 : Int32) (0 : Int32) a_OLDER_VERSION a_RESPONSE a_COMMAND)), .unset] [])) _
        refine st6 _ ?_
        show Steps p.tables e below (T6.setTop (mkF m 69 #[.val (.int vk), .val (.int (0 : Int32)), .val (.int (0 : Int32)), .val (.ref (own_of (0 : Int32) (0 : Int32) a_OLDER_VERSION a_RESPONSE a_COMMAND)), .unset] [(.ref a_OLDER_VERSION)])) _
        refine XS.astore X6.here hx rfl (hb hby at_69) rfl rfl (l' := #[.val (.int vk), .val (.int (0 : Int32)), .val (.int (0 : Int32)), .val (.ref (own_of (0 : Int32) (0 : Int32) a_OLDER_VERSION a_RESPONSE a_COMMAND)), .val (.ref a_OLDER_VERSION)]) rfl ?_
        show Steps p.tables e below (T6.setTop (mkF m 71 #[.val (.int vk), .val (.int (0 : Int32)), .val (.int (0 : Int32)), .val (.ref (own_of (0 : Int32) (0 : Int32) a_OLDER_VERSION a_RESPONSE a_COMMAND)), .val (.ref a_OLDER_VERSION)] [])) _
        refine XS.aloadN X6.here hx rfl (hb hby at_71) rfl rfl ?_
        show Steps p.tables e below (T6.setTop (mkF m 72 #[.val (.int vk), .val (.int (0 : Int32)), .val (.int (0 : Int32)), .val (.ref (own_of (0 : Int32) (0 : Int32) a_OLDER_VERSION a_RESPONSE a_COMMAND)), .val (.ref a_OLDER_VERSION)] [(.ref (own_of (0 : Int32) (0 : Int32) a_OLDER_VERSION a_RESPONSE a_COMMAND))])) _
        refine XS.aload X6.here hx rfl (hb hby at_72) rfl rfl ?_
        show Steps p.tables e below (T6.setTop (mkF m 74 #[.val (.int vk), .val (.int (0 : Int32)), .val (.int (0 : Int32)), .val (.ref (own_of (0 : Int32) (0 : Int32) a_OLDER_VERSION a_RESPONSE a_COMMAND)), .val (.ref a_OLDER_VERSION)] [(.ref a_OLDER_VERSION), (.ref (own_of (0 : Int32) (0 : Int32) a_OLDER_VERSION a_RESPONSE a_COMMAND))])) _
        refine Jvm.RoadKit.acmp (g := (mkF m 74 #[.val (.int vk), .val (.int (0 : Int32)), .val (.int (0 : Int32)), .val (.ref (own_of (0 : Int32) (0 : Int32) a_OLDER_VERSION a_RESPONSE a_COMMAND)), .val (.ref a_OLDER_VERSION)] [(.ref a_OLDER_VERSION), (.ref (own_of (0 : Int32) (0 : Int32) a_OLDER_VERSION a_RESPONSE a_COMMAND))])) X6 hx rfl rfl rfl (pc0 := 74) (pc' := 77) (same := true) rfl (hb hby at_74) rfl (decide_eq_true (congrArg Value.ref ((by simp [own_of]) : (own_of (0 : Int32) (0 : Int32) a_OLDER_VERSION a_RESPONSE a_COMMAND) = a_OLDER_VERSION))) (by decide) (by decide) ?_
        show Steps p.tables e below (T6.setTop (mkF m 77 #[.val (.int vk), .val (.int (0 : Int32)), .val (.int (0 : Int32)), .val (.ref (own_of (0 : Int32) (0 : Int32) a_OLDER_VERSION a_RESPONSE a_COMMAND)), .val (.ref a_OLDER_VERSION)] [])) _
        refine XS.iconst X6.here hx rfl (hb hby at_77) ?_
        show Steps p.tables e below (T6.setTop (mkF m 78 #[.val (.int vk), .val (.int (0 : Int32)), .val (.int (0 : Int32)), .val (.ref (own_of (0 : Int32) (0 : Int32) a_OLDER_VERSION a_RESPONSE a_COMMAND)), .val (.ref a_OLDER_VERSION)] [(.int (1 : Int32))])) _
        refine XS.goto X6.here hx rfl (pc0 := 78) (pc' := 82) rfl (hb hby at_78) (by decide) (by decide) ?_
        show Steps p.tables e below (T6.setTop (mkF m 82 #[.val (.int vk), .val (.int (0 : Int32)), .val (.int (0 : Int32)), .val (.ref (own_of (0 : Int32) (0 : Int32) a_OLDER_VERSION a_RESPONSE a_COMMAND)), .val (.ref a_OLDER_VERSION)] [(.int (1 : Int32))])) _
        exact retN X6 hx (t := .boolean) Bd.returns (by simp) (hb hby at_82) hr
      ·
        show Q0 Z vk a_OLDER_VERSION a_RESPONSE a_COMMAND h0 n0 _ T6.heap _
        rw [e6]
        exact ⟨rfl, N5⟩
    ·
      obtain ⟨_, _, ⟨T7, L7, k7, n7⟩, -, X7, ⟨Lc7, hQ7, l7, y7, z7⟩, st7⟩ := Jvm.LawKit.callS X0 hx (y := (⟨"com/example/packet_radio_link/packetradiolink/frame/CommandResponse", "of", "(ZZ)Lcom/example/packet_radio_link/packetradiolink/frame/CommandResponse;"⟩ : MethodName)) hown (mvT hZ (hw _ (List.mem_of_getElem? (i := 0) rfl))) (mvT hZ (hw _ (List.mem_of_getElem? (i := 1) rfl))) (mvT hZ (hw _ (List.mem_of_getElem? (i := 2) rfl))) (mvT hZ (hw _ (List.mem_of_getElem? (i := 3) rfl))) (by decide) (backOf (W := 0) (rm1 l Z a0 hw [] (0 : Int32) (1 : Int32) a_OLDER_VERSION a_RESPONSE a_COMMAND h0 n0 Z0 S_OLDER_VERSION S_RESPONSE S_COMMAND) hZ (hw _ (List.mem_of_getElem? (i := 3) rfl)) (hw _ (List.mem_of_getElem? (i := 2) rfl)) (by decide) (by decide)) (g := (mkF m 26 #[.val (.int vk), .val (.int (0 : Int32)), .val (.int (1 : Int32)), .unset, .unset] [(.int (1 : Int32)), (.int (0 : Int32))])) rfl (by rw [hml]; rfl) (argsL := [(.int (0 : Int32)), (.int (1 : Int32))]) (rest := []) (lenOf pd_0 rfl) rfl (by show 2 * 0 + _ ≤ _; exact Nat.le_of_eq rfl) (hb hby at_26) (fun _ _ => ⟨rfl, e0, (by decide : 0 + 0 ≤ _), (by decide : 0 + 0 ≤ _)⟩)
      dsimp only [Pt.U, Pt.locs, Pt.cells, Pt.slots] at X7 l7 y7 z7 st7 hQ7
      subst l7 y7 z7
      obtain ⟨rfl, N7q, e7q⟩ := hQ7
      have N7 := Fr.app N0 N7q
      obtain ⟨T8, X8, e8, st8⟩ := getS2 X7 hx hZ hown (host := "") (Or.inl (hw _ (List.mem_of_getElem? (i := 9) rfl))) Via.refl e7q S_RESPONSE (g := (mkF m 58 #[.val (.int vk), .val (.int (0 : Int32)), .val (.int (1 : Int32)), .val (.ref (own_of (0 : Int32) (1 : Int32) a_OLDER_VERSION a_RESPONSE a_COMMAND)), .unset] [])) rfl (hb hby at_58)
      obtain ⟨fs, hr, hrun, hended, hW, hsame⟩ := X8.leave (v := some (.int (1 : Int32))) (fun h => by rw [Bd.returns] at h; cases h)
      refine ⟨_, _, pre3 _ ?_, hrun, hended, _, _, rfl, ?_, ⟨_, rfl⟩, hW, hsame.mono (by decide) (by decide)⟩
      ·
        show Steps p.tables e below (s₁.setTop (mkF m 15 #[.val (.int vk), .val (.int (0 : Int32)), .unset, .unset, .unset] [(.int (vk &&& (2 : Int32)))])) _
        refine XS.ifNo X0.here hx rfl (hb hby at_15) rfl ((if0 _ _).trans (feq (hc4 : ¬ ((vk &&& (2 : Int32)) = (0 : Int32)))).1) ?_
        show Steps p.tables e below (s₁.setTop (mkF m 18 #[.val (.int vk), .val (.int (0 : Int32)), .unset, .unset, .unset] [])) _
        refine XS.iconst X0.here hx rfl (hb hby at_18) ?_
        show Steps p.tables e below (s₁.setTop (mkF m 19 #[.val (.int vk), .val (.int (0 : Int32)), .unset, .unset, .unset] [(.int (1 : Int32))])) _
        refine XS.goto X0.here hx rfl (pc0 := 19) (pc' := 23) rfl (hb hby at_19) (by decide) (by decide) ?_
        show Steps p.tables e below (s₁.setTop (mkF m 23 #[.val (.int vk), .val (.int (0 : Int32)), .unset, .unset, .unset] [(.int (1 : Int32))])) _
        refine XS.istoreN X0.here hx rfl (hb hby at_23) rfl (l' := #[.val (.int vk), .val (.int (0 : Int32)), .val (.int (1 : Int32)), .unset, .unset]) rfl ?_
        show Steps p.tables e below (s₁.setTop (mkF m 24 #[.val (.int vk), .val (.int (0 : Int32)), .val (.int (1 : Int32)), .unset, .unset] [])) _
        refine XS.iloadN X0.here hx rfl (hb hby at_24) rfl ?_
        show Steps p.tables e below (s₁.setTop (mkF m 25 #[.val (.int vk), .val (.int (0 : Int32)), .val (.int (1 : Int32)), .unset, .unset] [(.int (0 : Int32))])) _
        refine XS.iloadN X0.here hx rfl (hb hby at_25) rfl ?_
        show Steps p.tables e below (s₁.setTop (mkF m 26 #[.val (.int vk), .val (.int (0 : Int32)), .val (.int (1 : Int32)), .unset, .unset] [(.int (1 : Int32)), (.int (0 : Int32))])) _
        refine st7 _ ?_
        show Steps p.tables e below (T7.setTop (mkF m 29 #[.val (.int vk), .val (.int (0 : Int32)), .val (.int (1 : Int32)), .unset, .unset] [(.ref (own_of (0 : Int32) (1 : Int32) a_OLDER_VERSION a_RESPONSE a_COMMAND))])) _
        refine XS.astoreN X7.here hx rfl (hb hby at_29) rfl rfl (l' := #[.val (.int vk), .val (.int (0 : Int32)), .val (.int (1 : Int32)), .val (.ref (own_of (0 : Int32) (1 : Int32) a_OLDER_VERSION a_RESPONSE a_COMMAND)), .unset]) rfl ?_
        show Steps p.tables e below (T7.setTop (mkF m 30 #[.val (.int vk), .val (.int (0 : Int32)), .val (.int (1 : Int32)), .val (.ref (own_of (0 : Int32) (1 : Int32) a_OLDER_VERSION a_RESPONSE a_COMMAND)), .unset] [])) _
        refine XS.iloadN X7.here hx rfl (hb hby at_30) rfl ?_
        show Steps p.tables e below (T7.setTop (mkF m 31 #[.val (.int vk), .val (.int (0 : Int32)), .val (.int (1 : Int32)), .val (.ref (own_of (0 : Int32) (1 : Int32) a_OLDER_VERSION a_RESPONSE a_COMMAND)), .unset] [(.int (0 : Int32))])) _
        refine XS.ifYes X7.here hx rfl (pc0 := 31) (pc' := 54) rfl (hb hby at_31) rfl ((if0 _ _).trans (teq ((by decide) : (0 : Int32) = (0 : Int32))).1) (by decide) (by decide) ?_
        show Steps p.tables e below (T7.setTop (mkF m 54 #[.val (.int vk), .val (.int (0 : Int32)), .val (.int (1 : Int32)), .val (.ref (own_of (0 : Int32) (1 : Int32) a_OLDER_VERSION a_RESPONSE a_COMMAND)), .unset] [])) _
        refine XS.iloadN X7.here hx rfl (hb hby at_54) rfl ?_
        show Steps p.tables e below (T7.setTop (mkF m 55 #[.val (.int vk), .val (.int (0 : Int32)), .val (.int (1 : Int32)), .val (.ref (own_of (0 : Int32) (1 : Int32) a_OLDER_VERSION a_RESPONSE a_COMMAND)), .unset] [(.int (1 : Int32))])) _
        refine XS.ifNo X7.here hx rfl (hb hby at_55) rfl ((if0 _ _).trans (feq ((by decide) : ¬ ((1 : Int32) = (0 : Int32)))).1) ?_
        show Steps p.tables e below (T7.setTop (mkF m 58 #[.val (.int vk), .val (.int (0 : Int32)), .val (.int (1 : Int32)), .val (.ref (own_of (0 : Int32) (1 : Int32) a_OLDER_VERSION a_RESPONSE a_COMMAND)), .unset] [])) _
        refine st8 _ ?_
        show Steps p.tables e below (T8.setTop (mkF m 61 #[.val (.int vk), .val (.int (0 : Int32)), .val (.int (1 : Int32)), .val (.ref (own_of (0 : Int32) (1 : Int32) a_OLDER_VERSION a_RESPONSE a_COMMAND)), .unset] [(.ref a_RESPONSE)])) _
        refine XS.astore X8.here hx rfl (hb hby at_61) rfl rfl (l' := #[.val (.int vk), .val (.int (0 : Int32)), .val (.int (1 : Int32)), .val (.ref (own_of (0 : Int32) (1 : Int32) a_OLDER_VERSION a_RESPONSE a_COMMAND)), .val (.ref a_RESPONSE)]) rfl ?_
        show Steps p.tables e below (T8.setTop (mkF m 63 #[.val (.int vk), .val (.int (0 : Int32)), .val (.int (1 : Int32)), .val (.ref (own_of (0 : Int32) (1 : Int32) a_OLDER_VERSION a_RESPONSE a_COMMAND)), .val (.ref a_RESPONSE)] [])) _
        refine XS.goto X8.here hx rfl (pc0 := 63) (pc' := 71) rfl (hb hby at_63) (by decide) (by decide) ?_
        show Steps p.tables e below (T8.setTop (mkF m 71 #[.val (.int vk), .val (.int (0 : Int32)), .val (.int (1 : Int32)), .val (.ref (own_of (0 : Int32) (1 : Int32) a_OLDER_VERSION a_RESPONSE a_COMMAND)), .val (.ref a_RESPONSE)] [])) _
        refine XS.aloadN X8.here hx rfl (hb hby at_71) rfl rfl ?_
        show Steps p.tables e below (T8.setTop (mkF m 72 #[.val (.int vk), .val (.int (0 : Int32)), .val (.int (1 : Int32)), .val (.ref (own_of (0 : Int32) (1 : Int32) a_OLDER_VERSION a_RESPONSE a_COMMAND)), .val (.ref a_RESPONSE)] [(.ref (own_of (0 : Int32) (1 : Int32) a_OLDER_VERSION a_RESPONSE a_COMMAND))])) _
        refine XS.aload X8.here hx rfl (hb hby at_72) rfl rfl ?_
        show Steps p.tables e below (T8.setTop (mkF m 74 #[.val (.int vk), .val (.int (0 : Int32)), .val (.int (1 : Int32)), .val (.ref (own_of (0 : Int32) (1 : Int32) a_OLDER_VERSION a_RESPONSE a_COMMAND)), .val (.ref a_RESPONSE)] [(.ref a_RESPONSE), (.ref (own_of (0 : Int32) (1 : Int32) a_OLDER_VERSION a_RESPONSE a_COMMAND))])) _
        refine Jvm.RoadKit.acmp (g := (mkF m 74 #[.val (.int vk), .val (.int (0 : Int32)), .val (.int (1 : Int32)), .val (.ref (own_of (0 : Int32) (1 : Int32) a_OLDER_VERSION a_RESPONSE a_COMMAND)), .val (.ref a_RESPONSE)] [(.ref a_RESPONSE), (.ref (own_of (0 : Int32) (1 : Int32) a_OLDER_VERSION a_RESPONSE a_COMMAND))])) X8 hx rfl rfl rfl (pc0 := 74) (pc' := 77) (same := true) rfl (hb hby at_74) rfl (decide_eq_true (congrArg Value.ref ((by simp [own_of]) : (own_of (0 : Int32) (1 : Int32) a_OLDER_VERSION a_RESPONSE a_COMMAND) = a_RESPONSE))) (by decide) (by decide) ?_
        show Steps p.tables e below (T8.setTop (mkF m 77 #[.val (.int vk), .val (.int (0 : Int32)), .val (.int (1 : Int32)), .val (.ref (own_of (0 : Int32) (1 : Int32) a_OLDER_VERSION a_RESPONSE a_COMMAND)), .val (.ref a_RESPONSE)] [])) _
        refine XS.iconst X8.here hx rfl (hb hby at_77) ?_
        show Steps p.tables e below (T8.setTop (mkF m 78 #[.val (.int vk), .val (.int (0 : Int32)), .val (.int (1 : Int32)), .val (.ref (own_of (0 : Int32) (1 : Int32) a_OLDER_VERSION a_RESPONSE a_COMMAND)), .val (.ref a_RESPONSE)] [(.int (1 : Int32))])) _
        refine XS.goto X8.here hx rfl (pc0 := 78) (pc' := 82) rfl (hb hby at_78) (by decide) (by decide) ?_
        show Steps p.tables e below (T8.setTop (mkF m 82 #[.val (.int vk), .val (.int (0 : Int32)), .val (.int (1 : Int32)), .val (.ref (own_of (0 : Int32) (1 : Int32) a_OLDER_VERSION a_RESPONSE a_COMMAND)), .val (.ref a_RESPONSE)] [(.int (1 : Int32))])) _
        exact retN X8 hx (t := .boolean) Bd.returns (by simp) (hb hby at_82) hr
      ·
        show Q0 Z vk a_OLDER_VERSION a_RESPONSE a_COMMAND h0 n0 _ T8.heap _
        rw [e8]
        exact ⟨rfl, N7⟩
  ·
    have pre9 : ∀ t, Steps p.tables e below (s₁.setTop (mkF m 15 #[.val (.int vk), .val (.int (1 : Int32)), .unset, .unset, .unset] [(.int (vk &&& (2 : Int32)))])) t → Steps p.tables e below (s₁.setTop (entryFrame m #[(.int vk)] maxLocals)) t := by
      intro t kt
      refine pre1 t ?_
      show Steps p.tables e below (s₁.setTop (mkF m 3 #[.val (.int vk), .unset, .unset, .unset, .unset] [(.int (vk &&& (1 : Int32)))])) _
      refine XS.ifNo X0.here hx rfl (hb hby at_3) rfl ((if0 _ _).trans (feq (hc2 : ¬ ((vk &&& (1 : Int32)) = (0 : Int32)))).1) ?_
      show Steps p.tables e below (s₁.setTop (mkF m 6 #[.val (.int vk), .unset, .unset, .unset, .unset] [])) _
      refine XS.iconst X0.here hx rfl (hb hby at_6) ?_
      show Steps p.tables e below (s₁.setTop (mkF m 7 #[.val (.int vk), .unset, .unset, .unset, .unset] [(.int (1 : Int32))])) _
      refine XS.goto X0.here hx rfl (pc0 := 7) (pc' := 11) rfl (hb hby at_7) (by decide) (by decide) ?_
      show Steps p.tables e below (s₁.setTop (mkF m 11 #[.val (.int vk), .unset, .unset, .unset, .unset] [(.int (1 : Int32))])) _
      refine XS.istoreN X0.here hx rfl (hb hby at_11) rfl (l' := #[.val (.int vk), .val (.int (1 : Int32)), .unset, .unset, .unset]) rfl ?_
      show Steps p.tables e below (s₁.setTop (mkF m 12 #[.val (.int vk), .val (.int (1 : Int32)), .unset, .unset, .unset] [])) _
      refine XS.iloadN X0.here hx rfl (hb hby at_12) rfl ?_
      show Steps p.tables e below (s₁.setTop (mkF m 13 #[.val (.int vk), .val (.int (1 : Int32)), .unset, .unset, .unset] [(.int vk)])) _
      refine XS.iconst X0.here hx rfl (hb hby at_13) ?_
      show Steps p.tables e below (s₁.setTop (mkF m 14 #[.val (.int vk), .val (.int (1 : Int32)), .unset, .unset, .unset] [(.int (2 : Int32)), (.int vk)])) _
      refine XS.iand X0.here hx rfl (hb hby at_14) rfl ?_
      exact kt
    by_cases hc10 : (vk &&& (2 : Int32)) = (0 : Int32)
    ·
      obtain ⟨_, _, ⟨T11, L11, k11, n11⟩, -, X11, ⟨Lc11, hQ11, l11, y11, z11⟩, st11⟩ := Jvm.LawKit.callS X0 hx (y := (⟨"com/example/packet_radio_link/packetradiolink/frame/CommandResponse", "of", "(ZZ)Lcom/example/packet_radio_link/packetradiolink/frame/CommandResponse;"⟩ : MethodName)) hown (mvT hZ (hw _ (List.mem_of_getElem? (i := 0) rfl))) (mvT hZ (hw _ (List.mem_of_getElem? (i := 1) rfl))) (mvT hZ (hw _ (List.mem_of_getElem? (i := 2) rfl))) (mvT hZ (hw _ (List.mem_of_getElem? (i := 3) rfl))) (by decide) (backOf (W := 0) (rm1 l Z a0 hw [] (1 : Int32) (0 : Int32) a_OLDER_VERSION a_RESPONSE a_COMMAND h0 n0 Z0 S_OLDER_VERSION S_RESPONSE S_COMMAND) hZ (hw _ (List.mem_of_getElem? (i := 3) rfl)) (hw _ (List.mem_of_getElem? (i := 2) rfl)) (by decide) (by decide)) (g := (mkF m 26 #[.val (.int vk), .val (.int (1 : Int32)), .val (.int (0 : Int32)), .unset, .unset] [(.int (0 : Int32)), (.int (1 : Int32))])) rfl (by rw [hml]; rfl) (argsL := [(.int (1 : Int32)), (.int (0 : Int32))]) (rest := []) (lenOf pd_0 rfl) rfl (by show 2 * 0 + _ ≤ _; exact Nat.le_of_eq rfl) (hb hby at_26) (fun _ _ => ⟨rfl, e0, (by decide : 0 + 0 ≤ _), (by decide : 0 + 0 ≤ _)⟩)
      dsimp only [Pt.U, Pt.locs, Pt.cells, Pt.slots] at X11 l11 y11 z11 st11 hQ11
      subst l11 y11 z11
      obtain ⟨rfl, N11q, e11q⟩ := hQ11
      have N11 := Fr.app N0 N11q
      obtain ⟨T12, X12, e12, st12⟩ := getS2 X11 hx hZ hown (host := "") (Or.inl (hw _ (List.mem_of_getElem? (i := 12) rfl))) Via.refl e11q S_COMMAND (g := (mkF m 46 #[.val (.int vk), .val (.int (1 : Int32)), .val (.int (0 : Int32)), .val (.ref (own_of (1 : Int32) (0 : Int32) a_OLDER_VERSION a_RESPONSE a_COMMAND)), .unset] [])) rfl (hb hby at_46)
      obtain ⟨fs, hr, hrun, hended, hW, hsame⟩ := X12.leave (v := some (.int (1 : Int32))) (fun h => by rw [Bd.returns] at h; cases h)
      refine ⟨_, _, pre9 _ ?_, hrun, hended, _, _, rfl, ?_, ⟨_, rfl⟩, hW, hsame.mono (by decide) (by decide)⟩
      ·
        show Steps p.tables e below (s₁.setTop (mkF m 15 #[.val (.int vk), .val (.int (1 : Int32)), .unset, .unset, .unset] [(.int (vk &&& (2 : Int32)))])) _
        refine XS.ifYes X0.here hx rfl (pc0 := 15) (pc' := 22) rfl (hb hby at_15) rfl ((if0 _ _).trans (teq (hc10 : (vk &&& (2 : Int32)) = (0 : Int32))).1) (by decide) (by decide) ?_
        show Steps p.tables e below (s₁.setTop (mkF m 22 #[.val (.int vk), .val (.int (1 : Int32)), .unset, .unset, .unset] [])) _
        refine XS.iconst X0.here hx rfl (hb hby at_22) ?_
        show Steps p.tables e below (s₁.setTop (mkF m 23 #[.val (.int vk), .val (.int (1 : Int32)), .unset, .unset, .unset] [(.int (0 : Int32))])) _
        refine XS.istoreN X0.here hx rfl (hb hby at_23) rfl (l' := #[.val (.int vk), .val (.int (1 : Int32)), .val (.int (0 : Int32)), .unset, .unset]) rfl ?_
        show Steps p.tables e below (s₁.setTop (mkF m 24 #[.val (.int vk), .val (.int (1 : Int32)), .val (.int (0 : Int32)), .unset, .unset] [])) _
        refine XS.iloadN X0.here hx rfl (hb hby at_24) rfl ?_
        show Steps p.tables e below (s₁.setTop (mkF m 25 #[.val (.int vk), .val (.int (1 : Int32)), .val (.int (0 : Int32)), .unset, .unset] [(.int (1 : Int32))])) _
        refine XS.iloadN X0.here hx rfl (hb hby at_25) rfl ?_
        show Steps p.tables e below (s₁.setTop (mkF m 26 #[.val (.int vk), .val (.int (1 : Int32)), .val (.int (0 : Int32)), .unset, .unset] [(.int (0 : Int32)), (.int (1 : Int32))])) _
        refine st11 _ ?_
        show Steps p.tables e below (T11.setTop (mkF m 29 #[.val (.int vk), .val (.int (1 : Int32)), .val (.int (0 : Int32)), .unset, .unset] [(.ref (own_of (1 : Int32) (0 : Int32) a_OLDER_VERSION a_RESPONSE a_COMMAND))])) _
        refine XS.astoreN X11.here hx rfl (hb hby at_29) rfl rfl (l' := #[.val (.int vk), .val (.int (1 : Int32)), .val (.int (0 : Int32)), .val (.ref (own_of (1 : Int32) (0 : Int32) a_OLDER_VERSION a_RESPONSE a_COMMAND)), .unset]) rfl ?_
        show Steps p.tables e below (T11.setTop (mkF m 30 #[.val (.int vk), .val (.int (1 : Int32)), .val (.int (0 : Int32)), .val (.ref (own_of (1 : Int32) (0 : Int32) a_OLDER_VERSION a_RESPONSE a_COMMAND)), .unset] [])) _
        refine XS.iloadN X11.here hx rfl (hb hby at_30) rfl ?_
        show Steps p.tables e below (T11.setTop (mkF m 31 #[.val (.int vk), .val (.int (1 : Int32)), .val (.int (0 : Int32)), .val (.ref (own_of (1 : Int32) (0 : Int32) a_OLDER_VERSION a_RESPONSE a_COMMAND)), .unset] [(.int (1 : Int32))])) _
        refine XS.ifNo X11.here hx rfl (hb hby at_31) rfl ((if0 _ _).trans (feq ((by decide) : ¬ ((1 : Int32) = (0 : Int32)))).1) ?_
        show Steps p.tables e below (T11.setTop (mkF m 34 #[.val (.int vk), .val (.int (1 : Int32)), .val (.int (0 : Int32)), .val (.ref (own_of (1 : Int32) (0 : Int32) a_OLDER_VERSION a_RESPONSE a_COMMAND)), .unset] [])) _
        refine XS.iloadN X11.here hx rfl (hb hby at_34) rfl ?_
        show Steps p.tables e below (T11.setTop (mkF m 35 #[.val (.int vk), .val (.int (1 : Int32)), .val (.int (0 : Int32)), .val (.ref (own_of (1 : Int32) (0 : Int32) a_OLDER_VERSION a_RESPONSE a_COMMAND)), .unset] [(.int (0 : Int32))])) _
        refine XS.ifYes X11.here hx rfl (pc0 := 35) (pc' := 46) rfl (hb hby at_35) rfl ((if0 _ _).trans (teq ((by decide) : (0 : Int32) = (0 : Int32))).1) (by decide) (by decide) ?_
        show Steps p.tables e below (T11.setTop (mkF m 46 #[.val (.int vk), .val (.int (1 : Int32)), .val (.int (0 : Int32)), .val (.ref (own_of (1 : Int32) (0 : Int32) a_OLDER_VERSION a_RESPONSE a_COMMAND)), .unset] [])) _
        refine st12 _ ?_
        show Steps p.tables e below (T12.setTop (mkF m 49 #[.val (.int vk), .val (.int (1 : Int32)), .val (.int (0 : Int32)), .val (.ref (own_of (1 : Int32) (0 : Int32) a_OLDER_VERSION a_RESPONSE a_COMMAND)), .unset] [(.ref a_COMMAND)])) _
        refine XS.astore X12.here hx rfl (hb hby at_49) rfl rfl (l' := #[.val (.int vk), .val (.int (1 : Int32)), .val (.int (0 : Int32)), .val (.ref (own_of (1 : Int32) (0 : Int32) a_OLDER_VERSION a_RESPONSE a_COMMAND)), .val (.ref a_COMMAND)]) rfl ?_
        show Steps p.tables e below (T12.setTop (mkF m 51 #[.val (.int vk), .val (.int (1 : Int32)), .val (.int (0 : Int32)), .val (.ref (own_of (1 : Int32) (0 : Int32) a_OLDER_VERSION a_RESPONSE a_COMMAND)), .val (.ref a_COMMAND)] [])) _
        refine XS.goto X12.here hx rfl (pc0 := 51) (pc' := 71) rfl (hb hby at_51) (by decide) (by decide) ?_
        show Steps p.tables e below (T12.setTop (mkF m 71 #[.val (.int vk), .val (.int (1 : Int32)), .val (.int (0 : Int32)), .val (.ref (own_of (1 : Int32) (0 : Int32) a_OLDER_VERSION a_RESPONSE a_COMMAND)), .val (.ref a_COMMAND)] [])) _
        refine XS.aloadN X12.here hx rfl (hb hby at_71) rfl rfl ?_
        show Steps p.tables e below (T12.setTop (mkF m 72 #[.val (.int vk), .val (.int (1 : Int32)), .val (.int (0 : Int32)), .val (.ref (own_of (1 : Int32) (0 : Int32) a_OLDER_VERSION a_RESPONSE a_COMMAND)), .val (.ref a_COMMAND)] [(.ref (own_of (1 : Int32) (0 : Int32) a_OLDER_VERSION a_RESPONSE a_COMMAND))])) _
        refine XS.aload X12.here hx rfl (hb hby at_72) rfl rfl ?_
        show Steps p.tables e below (T12.setTop (mkF m 74 #[.val (.int vk), .val (.int (1 : Int32)), .val (.int (0 : Int32)), .val (.ref (own_of (1 : Int32) (0 : Int32) a_OLDER_VERSION a_RESPONSE a_COMMAND)), .val (.ref a_COMMAND)] [(.ref a_COMMAND), (.ref (own_of (1 : Int32) (0 : Int32) a_OLDER_VERSION a_RESPONSE a_COMMAND))])) _
        refine Jvm.RoadKit.acmp (g := (mkF m 74 #[.val (.int vk), .val (.int (1 : Int32)), .val (.int (0 : Int32)), .val (.ref (own_of (1 : Int32) (0 : Int32) a_OLDER_VERSION a_RESPONSE a_COMMAND)), .val (.ref a_COMMAND)] [(.ref a_COMMAND), (.ref (own_of (1 : Int32) (0 : Int32) a_OLDER_VERSION a_RESPONSE a_COMMAND))])) X12 hx rfl rfl rfl (pc0 := 74) (pc' := 77) (same := true) rfl (hb hby at_74) rfl (decide_eq_true (congrArg Value.ref ((by simp [own_of]) : (own_of (1 : Int32) (0 : Int32) a_OLDER_VERSION a_RESPONSE a_COMMAND) = a_COMMAND))) (by decide) (by decide) ?_
        show Steps p.tables e below (T12.setTop (mkF m 77 #[.val (.int vk), .val (.int (1 : Int32)), .val (.int (0 : Int32)), .val (.ref (own_of (1 : Int32) (0 : Int32) a_OLDER_VERSION a_RESPONSE a_COMMAND)), .val (.ref a_COMMAND)] [])) _
        refine XS.iconst X12.here hx rfl (hb hby at_77) ?_
        show Steps p.tables e below (T12.setTop (mkF m 78 #[.val (.int vk), .val (.int (1 : Int32)), .val (.int (0 : Int32)), .val (.ref (own_of (1 : Int32) (0 : Int32) a_OLDER_VERSION a_RESPONSE a_COMMAND)), .val (.ref a_COMMAND)] [(.int (1 : Int32))])) _
        refine XS.goto X12.here hx rfl (pc0 := 78) (pc' := 82) rfl (hb hby at_78) (by decide) (by decide) ?_
        show Steps p.tables e below (T12.setTop (mkF m 82 #[.val (.int vk), .val (.int (1 : Int32)), .val (.int (0 : Int32)), .val (.ref (own_of (1 : Int32) (0 : Int32) a_OLDER_VERSION a_RESPONSE a_COMMAND)), .val (.ref a_COMMAND)] [(.int (1 : Int32))])) _
        exact retN X12 hx (t := .boolean) Bd.returns (by simp) (hb hby at_82) hr
      ·
        show Q0 Z vk a_OLDER_VERSION a_RESPONSE a_COMMAND h0 n0 _ T12.heap _
        rw [e12]
        exact ⟨rfl, N11⟩
    ·
      obtain ⟨_, _, ⟨T13, L13, k13, n13⟩, -, X13, ⟨Lc13, hQ13, l13, y13, z13⟩, st13⟩ := Jvm.LawKit.callS X0 hx (y := (⟨"com/example/packet_radio_link/packetradiolink/frame/CommandResponse", "of", "(ZZ)Lcom/example/packet_radio_link/packetradiolink/frame/CommandResponse;"⟩ : MethodName)) hown (mvT hZ (hw _ (List.mem_of_getElem? (i := 0) rfl))) (mvT hZ (hw _ (List.mem_of_getElem? (i := 1) rfl))) (mvT hZ (hw _ (List.mem_of_getElem? (i := 2) rfl))) (mvT hZ (hw _ (List.mem_of_getElem? (i := 3) rfl))) (by decide) (backOf (W := 0) (rm1 l Z a0 hw [] (1 : Int32) (1 : Int32) a_OLDER_VERSION a_RESPONSE a_COMMAND h0 n0 Z0 S_OLDER_VERSION S_RESPONSE S_COMMAND) hZ (hw _ (List.mem_of_getElem? (i := 3) rfl)) (hw _ (List.mem_of_getElem? (i := 2) rfl)) (by decide) (by decide)) (g := (mkF m 26 #[.val (.int vk), .val (.int (1 : Int32)), .val (.int (1 : Int32)), .unset, .unset] [(.int (1 : Int32)), (.int (1 : Int32))])) rfl (by rw [hml]; rfl) (argsL := [(.int (1 : Int32)), (.int (1 : Int32))]) (rest := []) (lenOf pd_0 rfl) rfl (by show 2 * 0 + _ ≤ _; exact Nat.le_of_eq rfl) (hb hby at_26) (fun _ _ => ⟨rfl, e0, (by decide : 0 + 0 ≤ _), (by decide : 0 + 0 ≤ _)⟩)
      dsimp only [Pt.U, Pt.locs, Pt.cells, Pt.slots] at X13 l13 y13 z13 st13 hQ13
      subst l13 y13 z13
      obtain ⟨rfl, N13q, e13q⟩ := hQ13
      have N13 := Fr.app N0 N13q
      obtain ⟨T14, X14, e14, st14⟩ := getS2 X13 hx hZ hown (host := "") (Or.inl (hw _ (List.mem_of_getElem? (i := 6) rfl))) Via.refl e13q S_OLDER_VERSION (g := (mkF m 38 #[.val (.int vk), .val (.int (1 : Int32)), .val (.int (1 : Int32)), .val (.ref (own_of (1 : Int32) (1 : Int32) a_OLDER_VERSION a_RESPONSE a_COMMAND)), .unset] [])) rfl (hb hby at_38)
      obtain ⟨fs, hr, hrun, hended, hW, hsame⟩ := X14.leave (v := some (.int (1 : Int32))) (fun h => by rw [Bd.returns] at h; cases h)
      refine ⟨_, _, pre9 _ ?_, hrun, hended, _, _, rfl, ?_, ⟨_, rfl⟩, hW, hsame.mono (by decide) (by decide)⟩
      ·
        show Steps p.tables e below (s₁.setTop (mkF m 15 #[.val (.int vk), .val (.int (1 : Int32)), .unset, .unset, .unset] [(.int (vk &&& (2 : Int32)))])) _
        refine XS.ifNo X0.here hx rfl (hb hby at_15) rfl ((if0 _ _).trans (feq (hc10 : ¬ ((vk &&& (2 : Int32)) = (0 : Int32)))).1) ?_
        show Steps p.tables e below (s₁.setTop (mkF m 18 #[.val (.int vk), .val (.int (1 : Int32)), .unset, .unset, .unset] [])) _
        refine XS.iconst X0.here hx rfl (hb hby at_18) ?_
        show Steps p.tables e below (s₁.setTop (mkF m 19 #[.val (.int vk), .val (.int (1 : Int32)), .unset, .unset, .unset] [(.int (1 : Int32))])) _
        refine XS.goto X0.here hx rfl (pc0 := 19) (pc' := 23) rfl (hb hby at_19) (by decide) (by decide) ?_
        show Steps p.tables e below (s₁.setTop (mkF m 23 #[.val (.int vk), .val (.int (1 : Int32)), .unset, .unset, .unset] [(.int (1 : Int32))])) _
        refine XS.istoreN X0.here hx rfl (hb hby at_23) rfl (l' := #[.val (.int vk), .val (.int (1 : Int32)), .val (.int (1 : Int32)), .unset, .unset]) rfl ?_
        show Steps p.tables e below (s₁.setTop (mkF m 24 #[.val (.int vk), .val (.int (1 : Int32)), .val (.int (1 : Int32)), .unset, .unset] [])) _
        refine XS.iloadN X0.here hx rfl (hb hby at_24) rfl ?_
        show Steps p.tables e below (s₁.setTop (mkF m 25 #[.val (.int vk), .val (.int (1 : Int32)), .val (.int (1 : Int32)), .unset, .unset] [(.int (1 : Int32))])) _
        refine XS.iloadN X0.here hx rfl (hb hby at_25) rfl ?_
        show Steps p.tables e below (s₁.setTop (mkF m 26 #[.val (.int vk), .val (.int (1 : Int32)), .val (.int (1 : Int32)), .unset, .unset] [(.int (1 : Int32)), (.int (1 : Int32))])) _
        refine st13 _ ?_
        show Steps p.tables e below (T13.setTop (mkF m 29 #[.val (.int vk), .val (.int (1 : Int32)), .val (.int (1 : Int32)), .unset, .unset] [(.ref (own_of (1 : Int32) (1 : Int32) a_OLDER_VERSION a_RESPONSE a_COMMAND))])) _
        refine XS.astoreN X13.here hx rfl (hb hby at_29) rfl rfl (l' := #[.val (.int vk), .val (.int (1 : Int32)), .val (.int (1 : Int32)), .val (.ref (own_of (1 : Int32) (1 : Int32) a_OLDER_VERSION a_RESPONSE a_COMMAND)), .unset]) rfl ?_
        show Steps p.tables e below (T13.setTop (mkF m 30 #[.val (.int vk), .val (.int (1 : Int32)), .val (.int (1 : Int32)), .val (.ref (own_of (1 : Int32) (1 : Int32) a_OLDER_VERSION a_RESPONSE a_COMMAND)), .unset] [])) _
        refine XS.iloadN X13.here hx rfl (hb hby at_30) rfl ?_
        show Steps p.tables e below (T13.setTop (mkF m 31 #[.val (.int vk), .val (.int (1 : Int32)), .val (.int (1 : Int32)), .val (.ref (own_of (1 : Int32) (1 : Int32) a_OLDER_VERSION a_RESPONSE a_COMMAND)), .unset] [(.int (1 : Int32))])) _
        refine XS.ifNo X13.here hx rfl (hb hby at_31) rfl ((if0 _ _).trans (feq ((by decide) : ¬ ((1 : Int32) = (0 : Int32)))).1) ?_
        show Steps p.tables e below (T13.setTop (mkF m 34 #[.val (.int vk), .val (.int (1 : Int32)), .val (.int (1 : Int32)), .val (.ref (own_of (1 : Int32) (1 : Int32) a_OLDER_VERSION a_RESPONSE a_COMMAND)), .unset] [])) _
        refine XS.iloadN X13.here hx rfl (hb hby at_34) rfl ?_
        show Steps p.tables e below (T13.setTop (mkF m 35 #[.val (.int vk), .val (.int (1 : Int32)), .val (.int (1 : Int32)), .val (.ref (own_of (1 : Int32) (1 : Int32) a_OLDER_VERSION a_RESPONSE a_COMMAND)), .unset] [(.int (1 : Int32))])) _
        refine XS.ifNo X13.here hx rfl (hb hby at_35) rfl ((if0 _ _).trans (feq ((by decide) : ¬ ((1 : Int32) = (0 : Int32)))).1) ?_
        show Steps p.tables e below (T13.setTop (mkF m 38 #[.val (.int vk), .val (.int (1 : Int32)), .val (.int (1 : Int32)), .val (.ref (own_of (1 : Int32) (1 : Int32) a_OLDER_VERSION a_RESPONSE a_COMMAND)), .unset] [])) _
        refine st14 _ ?_
        show Steps p.tables e below (T14.setTop (mkF m 41 #[.val (.int vk), .val (.int (1 : Int32)), .val (.int (1 : Int32)), .val (.ref (own_of (1 : Int32) (1 : Int32) a_OLDER_VERSION a_RESPONSE a_COMMAND)), .unset] [(.ref a_OLDER_VERSION)])) _
        refine XS.astore X14.here hx rfl (hb hby at_41) rfl rfl (l' := #[.val (.int vk), .val (.int (1 : Int32)), .val (.int (1 : Int32)), .val (.ref (own_of (1 : Int32) (1 : Int32) a_OLDER_VERSION a_RESPONSE a_COMMAND)), .val (.ref a_OLDER_VERSION)]) rfl ?_
        show Steps p.tables e below (T14.setTop (mkF m 43 #[.val (.int vk), .val (.int (1 : Int32)), .val (.int (1 : Int32)), .val (.ref (own_of (1 : Int32) (1 : Int32) a_OLDER_VERSION a_RESPONSE a_COMMAND)), .val (.ref a_OLDER_VERSION)] [])) _
        refine XS.goto X14.here hx rfl (pc0 := 43) (pc' := 71) rfl (hb hby at_43) (by decide) (by decide) ?_
        show Steps p.tables e below (T14.setTop (mkF m 71 #[.val (.int vk), .val (.int (1 : Int32)), .val (.int (1 : Int32)), .val (.ref (own_of (1 : Int32) (1 : Int32) a_OLDER_VERSION a_RESPONSE a_COMMAND)), .val (.ref a_OLDER_VERSION)] [])) _
        refine XS.aloadN X14.here hx rfl (hb hby at_71) rfl rfl ?_
        show Steps p.tables e below (T14.setTop (mkF m 72 #[.val (.int vk), .val (.int (1 : Int32)), .val (.int (1 : Int32)), .val (.ref (own_of (1 : Int32) (1 : Int32) a_OLDER_VERSION a_RESPONSE a_COMMAND)), .val (.ref a_OLDER_VERSION)] [(.ref (own_of (1 : Int32) (1 : Int32) a_OLDER_VERSION a_RESPONSE a_COMMAND))])) _
        refine XS.aload X14.here hx rfl (hb hby at_72) rfl rfl ?_
        show Steps p.tables e below (T14.setTop (mkF m 74 #[.val (.int vk), .val (.int (1 : Int32)), .val (.int (1 : Int32)), .val (.ref (own_of (1 : Int32) (1 : Int32) a_OLDER_VERSION a_RESPONSE a_COMMAND)), .val (.ref a_OLDER_VERSION)] [(.ref a_OLDER_VERSION), (.ref (own_of (1 : Int32) (1 : Int32) a_OLDER_VERSION a_RESPONSE a_COMMAND))])) _
        refine Jvm.RoadKit.acmp (g := (mkF m 74 #[.val (.int vk), .val (.int (1 : Int32)), .val (.int (1 : Int32)), .val (.ref (own_of (1 : Int32) (1 : Int32) a_OLDER_VERSION a_RESPONSE a_COMMAND)), .val (.ref a_OLDER_VERSION)] [(.ref a_OLDER_VERSION), (.ref (own_of (1 : Int32) (1 : Int32) a_OLDER_VERSION a_RESPONSE a_COMMAND))])) X14 hx rfl rfl rfl (pc0 := 74) (pc' := 77) (same := true) rfl (hb hby at_74) rfl (decide_eq_true (congrArg Value.ref ((by simp [own_of]) : (own_of (1 : Int32) (1 : Int32) a_OLDER_VERSION a_RESPONSE a_COMMAND) = a_OLDER_VERSION))) (by decide) (by decide) ?_
        show Steps p.tables e below (T14.setTop (mkF m 77 #[.val (.int vk), .val (.int (1 : Int32)), .val (.int (1 : Int32)), .val (.ref (own_of (1 : Int32) (1 : Int32) a_OLDER_VERSION a_RESPONSE a_COMMAND)), .val (.ref a_OLDER_VERSION)] [])) _
        refine XS.iconst X14.here hx rfl (hb hby at_77) ?_
        show Steps p.tables e below (T14.setTop (mkF m 78 #[.val (.int vk), .val (.int (1 : Int32)), .val (.int (1 : Int32)), .val (.ref (own_of (1 : Int32) (1 : Int32) a_OLDER_VERSION a_RESPONSE a_COMMAND)), .val (.ref a_OLDER_VERSION)] [(.int (1 : Int32))])) _
        refine XS.goto X14.here hx rfl (pc0 := 78) (pc' := 82) rfl (hb hby at_78) (by decide) (by decide) ?_
        show Steps p.tables e below (T14.setTop (mkF m 82 #[.val (.int vk), .val (.int (1 : Int32)), .val (.int (1 : Int32)), .val (.ref (own_of (1 : Int32) (1 : Int32) a_OLDER_VERSION a_RESPONSE a_COMMAND)), .val (.ref a_OLDER_VERSION)] [(.int (1 : Int32))])) _
        exact retN X14 hx (t := .boolean) Bd.returns (by simp) (hb hby at_82) hr
      ·
        show Q0 Z vk a_OLDER_VERSION a_RESPONSE a_COMMAND h0 n0 _ T14.heap _
        rw [e14]
        exact ⟨rfl, N13⟩
set_option maxRecDepth 65536 in
set_option maxHeartbeats 40000000 in
theorem comes_1 {Post : Tables → Env → Array Value → State → Outcome → State → Prop} (hpost : ∀ tb e args s v u, (limb_1_1.after args s (.returned v) u = true ∧ limb_1_2.after args s (.returned v) u = true ∧ True) → FrameEnd s (.returned v) u (Jvm.fieldLocs frame_1_writes args s ++ Jvm.arrayLocs frame_1_arrays args s ++ Jvm.staticLocs frame_1_statics s) 0 0 → Post tb e args s (.returned v) u) :
    ArmFor flags0 classFile x code maxLocals ret World_1 tables_1 room_1 Calls_1 rest_1 Pre_1 Post := by
  intro l hfl _ _ p e ha hc hk s m args below hf hA hF happ hP
  obtain ⟨hcalls, hrest, hpre⟩ := hP
  obtain ⟨-, -, -, hnamed, -, -, -, hat⟩ := (Spec.applies_iff hf).mp happ
  obtain ⟨hg, hn⟩ := and_e (Cond.before_iff.mp (show (Jvm.Cond.and given_1 narrow_1).before args s = true from hpre))
  obtain ⟨g1a, g1b⟩ := and_e hg
  obtain ⟨g2a, g2b⟩ := and_e hn
  obtain ⟨g3a, g3b⟩ := and_e g2b
  obtain ⟨w0, rfl⟩ : ∃ w0 : Value, args = #[w0] := by
    have hs : args.size = 1 := by simpa [Cond.value, given_1] using g1a
    obtain ⟨L⟩ := args
    match L, hs with
    | [w0], _ => exact ⟨w0, rfl⟩
  have hw := fun d (hd : d ∈ tables_1) => atoms_spec (ws := Jvm.Cond.code x code maxLocals ret :: tables_1) hat d (List.mem_cons_of_mem _ hd)
  have hfit : Fit s := fun {y c} hc i hi => by
    obtain ⟨ha, rfl⟩ := Array.getElem?_eq_some_iff.mp hc
    have q := List.all_eq_true.mp ((Array.all_eq_true_iff_forall_mem.mp hF) _ (Array.getElem_mem ha)) i (List.mem_range.mpr hi)
    simpa [Array.getElem?_eq_getElem hi] using q
  obtain ⟨vk, ei0⟩ := is_v g1b
  obtain rfl : w0 = (.int vk) := Option.some.inj ei0
  obtain ⟨a_OLDER_VERSION, e_OLDER_VERSION⟩ := exa_v g2a
  have S_OLDER_VERSION : Sta s s.heap "com/example/packet_radio_link/packetradiolink/frame/CommandResponse" "OLDER_VERSION" "Lcom/example/packet_radio_link/packetradiolink/frame/CommandResponse;" (.ref a_OLDER_VERSION) := Sta.start e_OLDER_VERSION (Or.inr ⟨(hw _ (List.mem_of_getElem? (i := 2) rfl)), (hw _ (List.mem_of_getElem? (i := 5) rfl))⟩)
  have E_OLDER_VERSION : Exa s s.heap a_OLDER_VERSION "com/example/packet_radio_link/packetradiolink/frame/CommandResponse" := Exa.start e_OLDER_VERSION g2a
  obtain ⟨a_RESPONSE, e_RESPONSE⟩ := exa_v g3a
  have S_RESPONSE : Sta s s.heap "com/example/packet_radio_link/packetradiolink/frame/CommandResponse" "RESPONSE" "Lcom/example/packet_radio_link/packetradiolink/frame/CommandResponse;" (.ref a_RESPONSE) := Sta.start e_RESPONSE (Or.inr ⟨(hw _ (List.mem_of_getElem? (i := 2) rfl)), (hw _ (List.mem_of_getElem? (i := 8) rfl))⟩)
  have E_RESPONSE : Exa s s.heap a_RESPONSE "com/example/packet_radio_link/packetradiolink/frame/CommandResponse" := Exa.start e_RESPONSE g3a
  obtain ⟨a_COMMAND, e_COMMAND⟩ := exa_v g3b
  have S_COMMAND : Sta s s.heap "com/example/packet_radio_link/packetradiolink/frame/CommandResponse" "COMMAND" "Lcom/example/packet_radio_link/packetradiolink/frame/CommandResponse;" (.ref a_COMMAND) := Sta.start e_COMMAND (Or.inr ⟨(hw _ (List.mem_of_getElem? (i := 2) rfl)), (hw _ (List.mem_of_getElem? (i := 11) rfl))⟩)
  have E_COMMAND : Exa s s.heap a_COMMAND "com/example/packet_radio_link/packetradiolink/frame/CommandResponse" := Exa.start e_COMMAND g3b
  obtain ⟨n, o, h1, h2, h3, _, L, rfl, ⟨rfl, N⟩, hq⟩ := rm0 l s _ hw tables_1 vk a_OLDER_VERSION a_RESPONSE a_COMMAND s.heap s.heap.size (Nat.le_refl _) S_OLDER_VERSION S_RESPONSE S_COMMAND p e ha hc hk s m _ below hf ((Spec.applies_iff_loose hf).mp happ).1 ⟨rfl, State.Warmed39.refl s, rfl⟩ trivial
  refine ⟨n, _, h1, h2, h3, hpost _ _ _ _ _ _ ⟨Cond.after_iff.mpr rfl, Cond.after_iff.mpr (eq_i res_at (Term.int_eval (1)) rfl), trivial⟩ ⟨hq.1, hq.2.1, (hq.2.2.sift fun y hy => Or.inr (N y hy)).mono (by decide) (by decide)⟩⟩
theorem main_1_1 : Claimed_1_1 := comes_1 fun _ _ _ _ _ _ h hF => ⟨h.1, hF⟩
theorem main_1_2 : Claimed_1_2 := comes_1 fun _ _ _ _ _ _ h hF => ⟨h.2.1, hF⟩
end Jvm.Pilot.@@N@@
namespace Jvm.Pilot.@@N@@
open Jvm Jvm.ClassFile Sem Op Lib Jvm.Free Jvm.Stand Jvm.Pilot.@@N@@.Jvm.D
/-! MADE BY PROGRAM (witnessworld.py) out of the Statement's table words and the real class files: 12 classes; the members and pool entries that the words name. The judged class is class 1, her method 1. -/
namespace start1
open Jvm.ClassFile
def u (s : String) : CpInfo := .utf8 (stringToUtf16 s)
/-- a pool by its gaps: so many unusable entries, then the entry; so many at the end -/
def gap : Nat → List CpInfo → List CpInfo
  | 0, r => r
  | n + 1, r => .unusable :: gap n r
def poolList (es : List (Nat × CpInfo)) (last : Nat) : List CpInfo := es.foldr (fun e r => gap e.1 (e.2 :: r)) (gap last [])
def pool (es : List (Nat × CpInfo)) (last : Nat) : Array CpInfo := ⟨poolList es last⟩
def fileOf (pool : Array CpInfo) (this : Nat) (attrs : Array Attribute := #[]) (ms : Array MethodInfo := #[]) (fl : Nat := 33) (sup : Nat := 0) (ifs : Array Nat := #[]) (fds : Array FieldInfo := #[]) : ClassFile where
  minorVersion := 0
  majorVersion := 65
  constantPool := pool
  accessFlags := fl
  thisClass := this
  superClass := sup
  interfaces := ifs
  fields := fds
  methods := ms
  attributes := attrs
def plain (name : String) (sup : Option ClassId) : Class where
  name := name
  kind := .ordinary
  loader := none
  accessFlags := 33
  super := sup
  interfaces := #[]
  cf := none
  fields := #[]
  methods := #[]
  instanceTypes := #[]
  staticTypes := #[]
  resolved := #[]
  callSites := []
  init := .initialized
  statics := none
  mirror := none

def pool0 : Array CpInfo := pool [(5, u "<init>"), (0, u "()V"), (1, .class_ 10), (1, u "java/lang/Object")] 113

def k0m0 : Method := { name := "<init>", desc := "()V", sig := { parameters := [], returnType := none }, accessFlags := 1, code := none }
/-- java/lang/Object -/
def k0 : Class := { plain "java/lang/Object" none with
  accessFlags := 33
  interfaces := #[]
  cf := some (fileOf pool0 8 #[] #[{ accessFlags := 1, nameIndex := 5, descriptorIndex := 6, attributes := #[] }] 33 0 #[] #[])
  fields := #[]
  methods := #[k0m0]
  instanceTypes := #[]
  staticTypes := #[]
  resolved := Array.replicate 124 none
  statics := none }

def pool1 : Array CpInfo := pool [(2, .class_ 4), (1, u "java/lang/Object"), (0, u "<init>"), (0, u "()V"), (0, .methodref 8 9), (0, .class_ 10), (0, .nameAndType 11 12), (0, u "com/example/packet_radio_link/packetradiolink/frame/CommandResponse"), (0, u "of"), (0, u "(ZZ)Lcom/example/packet_radio_link/packetradiolink/frame/CommandResponse;"), (0, .fieldref 8 14), (0, .nameAndType 15 16), (0, u "OLDER_VERSION"), (0, u "Lcom/example/packet_radio_link/packetradiolink/frame/CommandResponse;"), (0, .fieldref 8 18), (0, .nameAndType 19 16), (0, u "COMMAND"), (0, .fieldref 8 21), (0, .nameAndType 22 16), (0, u "RESPONSE"), (0, .class_ 24), (0, u "com/example/packet_radio_link/packetradiolink/frame/CommandResponseOfPinLaw"), (2, u "law"), (0, u "(I)Z")] 3

def k1m0 : Method := { name := "<init>", desc := "()V", sig := { parameters := [], returnType := none }, accessFlags := 1, code := none }
def k1c1 : Code := { maxStack := 2, maxLocals := 5, code := code, exceptionTable := #[], attributes := #[] }
def k1m1 : Method := { name := "law", desc := "(I)Z", sig := { parameters := [.int], returnType := some .boolean }, accessFlags := 9, code := some k1c1 }
/-- com/example/packet_radio_link/packetradiolink/frame/CommandResponseOfPinLaw -/
def k1 : Class := { plain "com/example/packet_radio_link/packetradiolink/frame/CommandResponseOfPinLaw" (some 0) with
  accessFlags := 49
  interfaces := #[]
  cf := some (fileOf pool1 23 #[] #[{ accessFlags := 1, nameIndex := 5, descriptorIndex := 6, attributes := #[] }, { accessFlags := 9, nameIndex := 27, descriptorIndex := 28, attributes := #[] }] 49 2 #[] #[])
  fields := #[]
  methods := #[k1m0, k1m1]
  instanceTypes := #[]
  staticTypes := #[]
  resolved := Array.replicate 32 none
  statics := none }

def pool2 : Array CpInfo := pool [(1, .class_ 2), (0, u "java/lang/constant/Constable"), (0, .class_ 4), (0, u "java/lang/Object")] 6

/-- java/lang/constant/Constable -/
def k2 : Class := { plain "java/lang/constant/Constable" (some 0) with
  accessFlags := 1537
  interfaces := #[]
  cf := some (fileOf pool2 1 #[] #[] 1537 3 #[] #[])
  fields := #[]
  methods := #[]
  instanceTypes := #[]
  staticTypes := #[]
  resolved := Array.replicate 11 none
  statics := none }

def pool3 : Array CpInfo := pool [(1, .class_ 2), (0, u "java/lang/Comparable"), (0, .class_ 4), (0, u "java/lang/Object")] 7

/-- java/lang/Comparable -/
def k3 : Class := { plain "java/lang/Comparable" (some 0) with
  accessFlags := 1537
  interfaces := #[]
  cf := some (fileOf pool3 1 #[] #[] 1537 3 #[] #[])
  fields := #[]
  methods := #[]
  instanceTypes := #[]
  staticTypes := #[]
  resolved := Array.replicate 12 none
  statics := none }

def pool4 : Array CpInfo := pool [(1, .class_ 2), (0, u "java/io/Serializable"), (0, .class_ 4), (0, u "java/lang/Object")] 2

/-- java/io/Serializable -/
def k4 : Class := { plain "java/io/Serializable" (some 0) with
  accessFlags := 1537
  interfaces := #[]
  cf := some (fileOf pool4 1 #[] #[] 1537 3 #[] #[])
  fields := #[]
  methods := #[]
  instanceTypes := #[]
  staticTypes := #[]
  resolved := Array.replicate 7 none
  statics := none }

def pool5 : Array CpInfo := pool [(2, .class_ 4), (1, u "java/lang/Enum"), (0, u "name"), (0, u "Ljava/lang/String;"), (2, u "ordinal"), (0, u "I"), (1, .class_ 14), (1, u "java/lang/Object"), (4, u "hash"), (86, .class_ 108), (1, u "java/lang/Enum$EnumDesc"), (2, .class_ 112), (0, u "java/lang/constant/Constable"), (0, .class_ 114), (0, u "java/lang/Comparable"), (0, .class_ 116), (0, u "java/io/Serializable")] 87

/-- java/lang/Enum -/
def k5 : Class := { plain "java/lang/Enum" (some 0) with
  accessFlags := 1057
  interfaces := #[2, 3, 4]
  cf := some (fileOf pool5 2 #[.nestMembers #[106]] #[] 1057 12 #[111, 113, 115] #[{ accessFlags := 18, nameIndex := 5, descriptorIndex := 6, attributes := #[] }, { accessFlags := 18, nameIndex := 9, descriptorIndex := 10, attributes := #[] }, { accessFlags := 2, nameIndex := 19, descriptorIndex := 10, attributes := #[] }])
  fields := #[{ name := "name", type := (.object "java/lang/String"), accessFlags := 18, slot := 0, constantValue := 0 }, { name := "ordinal", type := .int, accessFlags := 18, slot := 1, constantValue := 0 }, { name := "hash", type := .int, accessFlags := 2, slot := 2, constantValue := 0 }]
  methods := #[]
  instanceTypes := #[(.object "java/lang/String"), .int, .int]
  staticTypes := #[]
  resolved := Array.replicate 204 none
  statics := none }

def pool6 : Array CpInfo := pool [(1, .class_ 2), (0, u "com/example/packet_radio_link/packetradiolink/frame/CommandResponse"), (0, .fieldref 1 4), (0, .nameAndType 5 6), (0, u "COMMAND"), (0, u "Lcom/example/packet_radio_link/packetradiolink/frame/CommandResponse;"), (0, .fieldref 1 8), (0, .nameAndType 9 6), (0, u "RESPONSE"), (0, .fieldref 1 11), (0, .nameAndType 12 6), (0, u "OLDER_VERSION"), (2, u "$VALUES"), (0, u "[Lcom/example/packet_radio_link/packetradiolink/frame/CommandResponse;"), (6, .class_ 25), (1, u "java/lang/Enum"), (8, u "word"), (0, u "Ljava/lang/String;"), (2, u "pollFinal"), (76, u "of"), (0, u "(ZZ)Lcom/example/packet_radio_link/packetradiolink/frame/CommandResponse;")] 49

def k6c0 : Code := { maxStack := 2, maxLocals := 2, code := prog_2_method_4_code, exceptionTable := #[], attributes := #[] }
def k6m0 : Method := { name := "of", desc := "(ZZ)Lcom/example/packet_radio_link/packetradiolink/frame/CommandResponse;", sig := { parameters := [.boolean, .boolean], returnType := some (.object "com/example/packet_radio_link/packetradiolink/frame/CommandResponse") }, accessFlags := 9, code := some k6c0 }
/-- com/example/packet_radio_link/packetradiolink/frame/CommandResponse -/
def k6 : Class := { plain "com/example/packet_radio_link/packetradiolink/frame/CommandResponse" (some 5) with
  accessFlags := 16433
  interfaces := #[]
  cf := some (fileOf pool6 1 #[] #[{ accessFlags := 9, nameIndex := 115, descriptorIndex := 116, attributes := #[] }] 16433 23 #[] #[{ accessFlags := 16409, nameIndex := 5, descriptorIndex := 6, attributes := #[] }, { accessFlags := 16409, nameIndex := 9, descriptorIndex := 6, attributes := #[] }, { accessFlags := 16409, nameIndex := 12, descriptorIndex := 6, attributes := #[] }, { accessFlags := 18, nameIndex := 34, descriptorIndex := 35, attributes := #[] }, { accessFlags := 18, nameIndex := 38, descriptorIndex := 35, attributes := #[] }, { accessFlags := 4122, nameIndex := 15, descriptorIndex := 16, attributes := #[] }])
  fields := #[{ name := "COMMAND", type := (.object "com/example/packet_radio_link/packetradiolink/frame/CommandResponse"), accessFlags := 16409, slot := 0, constantValue := 0 }, { name := "RESPONSE", type := (.object "com/example/packet_radio_link/packetradiolink/frame/CommandResponse"), accessFlags := 16409, slot := 1, constantValue := 0 }, { name := "OLDER_VERSION", type := (.object "com/example/packet_radio_link/packetradiolink/frame/CommandResponse"), accessFlags := 16409, slot := 2, constantValue := 0 }, { name := "word", type := (.object "java/lang/String"), accessFlags := 18, slot := 3, constantValue := 0 }, { name := "pollFinal", type := (.object "java/lang/String"), accessFlags := 18, slot := 4, constantValue := 0 }, { name := "$VALUES", type := (.array (.object "com/example/packet_radio_link/packetradiolink/frame/CommandResponse")), accessFlags := 4122, slot := 3, constantValue := 0 }]
  methods := #[k6m0]
  instanceTypes := #[(.object "java/lang/String"), .int, .int, (.object "java/lang/String"), (.object "java/lang/String")]
  staticTypes := #[(.object "com/example/packet_radio_link/packetradiolink/frame/CommandResponse"), (.object "com/example/packet_radio_link/packetradiolink/frame/CommandResponse"), (.object "com/example/packet_radio_link/packetradiolink/frame/CommandResponse"), (.array (.object "com/example/packet_radio_link/packetradiolink/frame/CommandResponse"))]
  resolved := Array.replicate 166 none
  statics := some 0 }

def pool7 : Array CpInfo := pool [(1, u "java/lang/Cloneable"), (0, .class_ 1), (0, u "java/lang/Object"), (0, .class_ 3)] 3

/-- java/lang/Cloneable -/
def k7 : Class := { plain "java/lang/Cloneable" (some 0) with
  accessFlags := 1537
  interfaces := #[]
  cf := some (fileOf pool7 2 #[] #[] 1537 4 #[] #[])
  fields := #[]
  methods := #[]
  instanceTypes := #[]
  staticTypes := #[]
  resolved := Array.replicate 8 none
  statics := none }

/-- the primitive byte -/
def k8 : Class := { plain "byte" none with kind := .primitive 'B', accessFlags := 0x411 }
/-- [B -/
def k9 : Class := { plain "[B" (some 0) with kind := .array 8 .byte, interfaces := #[7, 4], accessFlags := 1041 }

/-- the primitive int -/
def k10 : Class := { plain "int" none with kind := .primitive 'I', accessFlags := 0x411 }
/-- [I -/
def k11 : Class := { plain "[I" (some 0) with kind := .array 10 .int, interfaces := #[7, 4], accessFlags := 1041 }

def heap : Heap := #[{ cls := 6, slots := #[.ref 3, .ref 2, .ref 1, .null], vm := .statics 6 },
  { cls := 6, slots := #[.null, .int 0, .int 0, .null, .null], vm := .none },
  { cls := 6, slots := #[.null, .int 1, .int 0, .null, .null], vm := .none },
  { cls := 6, slots := #[.null, .int 2, .int 0, .null, .null], vm := .none }]
def classes : Array Class := #[k0, k1, k2, k3, k4, k5, k6, k7, k8, k9, k10, k11]
def interned : List (Array UInt16 × Addr) := []
def slotsUsed : Nat := 19
def theMethod : MethodId := ⟨1, 1⟩
def args0 : Array Value := #[.int 5]
def aboutOver (below : List Frame) : State where
  vm := { classes := classes, interned := interned.toArray }
  heap := heap
  slotsUsed := slotsUsed
  threads := #[{ frames := .invoking theMethod args0 :: below }]
def below0 : List Frame := [.native { method := ⟨0, 0⟩, args := #[] }]
def about1 : State := aboutOver below0
def p0 : Program := .bare "" "" ""
def e0 : Env := launch0.env 0 0 0
theorem w_frames : about1.frames = Frame.invoking theMethod args0 :: below0 := rfl
set_option maxRecDepth 65536 in
theorem w_args : argsFit about1.vm theMethod args0 = true := by decide +kernel
set_option maxRecDepth 65536 in
theorem w_heap : heapFits about1 = true := by decide +kernel
set_option maxRecDepth 65536 in
theorem w_runnable : about1.curStatus? = some .runnable := by decide +kernel
set_option maxRecDepth 65536 in
theorem w_alone : about1.alone = true := by decide +kernel
set_option maxRecDepth 65536 in
theorem w_named : about1.methodNamed? x = some theMethod := by decide +kernel
set_option maxRecDepth 65536 in
theorem w_hears : about1.hears theMethod below0 = true := by decide +kernel
set_option maxRecDepth 65536 in
theorem w_ripe : about1.ripe theMethod args0 below0 = true := by decide +kernel
theorem w_running : about1.status = .running := rfl
set_option maxRecDepth 65536 in
theorem w_room : about1.hasRoom e0.platform room_1 = true :=
  launch0.hasRoom_least _ room_1 (by decide +kernel) (by decide +kernel) (by decide +kernel) (by decide +kernel) (by decide +kernel) (by decide +kernel)
theorem allAtoms_all (ts : List Jvm.Cond) (a : Array Jvm.Value) (st : Jvm.State) : (allAtoms ts).before a st = ts.all (fun c => c.before a st) := by
  induction ts with
  | nil => rfl
  | cons c t ih =>
    show (Jvm.Cond.and c (allAtoms t)).before a st = _
    rw [Jvm.Cond.before_and, ih, List.all_cons]
def words1 : List Jvm.Cond := Jvm.Cond.code x code maxLocals ret :: tables_1
/-- a 'code' word, met by the world's own term for the bytes: nothing is compared byte by byte -/
theorem code_word {y : MethodName} {bytes : ByteArray} {mx : Nat} {rt : Option FieldType} {a : Array Value} {s : State} {m : MethodId} {meth : Method} {c : Code} (h1 : s.methodNamed? y = some m) (h2 : s.vm.method? m = some meth) (h3 : meth.code = some c) (h4 : c.code = bytes)
    (h5 : (c.maxLocals == mx && c.exceptionTable.isEmpty && decide (c.maxStack ≤ mostOperands) && decide (meth.sig.returnType = rt) && !meth.locks && decide (parseMethodDescriptor y.desc = some meth.sig)) = true) : (Jvm.Cond.code y bytes mx rt).before a s = true := by
  simp only [Bool.and_eq_true, beq_iff_eq, Bool.not_eq_true', decide_eq_true_eq] at h5
  obtain ⟨⟨⟨⟨⟨g1, g2⟩, g3⟩, g4⟩, g5⟩, g6⟩ := h5
  simp [Cond.before, Cond.holds, Cond.value, h1, h2, h3, h4, g1, g2, g3, g4, g5, g6]
def isCode : Jvm.Cond → Bool
  | .code _ _ _ _ => true
  | _ => false
theorem all_split {L : List Jvm.Cond} {P : Jvm.Cond → Bool} (h1 : L.all (fun c => isCode c || P c) = true) (h2 : ∀ c ∈ L.filter isCode, P c = true) : L.all P = true := by
  refine List.all_eq_true.mpr fun c hc => ?_
  have h := List.all_eq_true.mp h1 c hc
  rcases Bool.eq_false_or_eq_true (isCode c) with hi | hi
  · exact h2 c (List.mem_filter.mpr ⟨hc, hi⟩)
  · simpa [hi] using h
set_option maxRecDepth 65536 in
theorem w_c0 : (Jvm.Cond.code x code maxLocals ret).before args0 about1 = true := code_word (m := ⟨1, 1⟩) (meth := k1m1) (c := k1c1) (by decide +kernel) rfl rfl rfl (by decide +kernel)
set_option maxRecDepth 65536 in
theorem w_c1 : (Jvm.Cond.code ({ cls := "com/example/packet_radio_link/packetradiolink/frame/CommandResponse", name := "of", desc := "(ZZ)Lcom/example/packet_radio_link/packetradiolink/frame/CommandResponse;" } : Jvm.MethodName) prog_2_method_4_code (2 : Nat) (Option.some (Jvm.ClassFile.FieldType.object "com/example/packet_radio_link/packetradiolink/frame/CommandResponse"))).before args0 about1 = true := code_word (m := ⟨6, 0⟩) (meth := k6m0) (c := k6c0) (by decide +kernel) rfl rfl rfl (by decide +kernel)
def codes1 : List Jvm.Cond := [Jvm.Cond.code x code maxLocals ret, Jvm.Cond.code ({ cls := "com/example/packet_radio_link/packetradiolink/frame/CommandResponse", name := "of", desc := "(ZZ)Lcom/example/packet_radio_link/packetradiolink/frame/CommandResponse;" } : Jvm.MethodName) prog_2_method_4_code (2 : Nat) (Option.some (Jvm.ClassFile.FieldType.object "com/example/packet_radio_link/packetradiolink/frame/CommandResponse"))]
set_option maxRecDepth 65536 in
theorem codes_eq : words1.filter isCode = codes1 := rfl
theorem w_codes : ∀ c ∈ words1.filter isCode, c.before args0 about1 = true := by
  rw [codes_eq]
  intro c hc
  simp only [codes1, List.mem_cons, List.not_mem_nil, or_false] at hc
  rcases hc with rfl | rfl
  · exact w_c0
  · exact w_c1
set_option maxRecDepth 65536 in
theorem w_t1 : words1.all (fun c => isCode c || c.before args0 about1) = true := by decide +kernel
theorem w_tables : (allAtoms (Jvm.Cond.code x code maxLocals ret :: tables_1)).before args0 about1 = true := by
  rw [allAtoms_all]
  show words1.all (fun c => c.before args0 about1) = true
  refine all_split ?_ w_codes
  rw [w_t1]
set_option maxRecDepth 65536 in
theorem w_case : (Jvm.Cond.and given_1 narrow_1).before args0 about1 = true := by decide +kernel
theorem w_applies : (headSpec (Jvm.Cond.code x code maxLocals ret :: tables_1) room_1).applies x e0.platform about1 = true :=
  (Spec.applies_iff w_frames).mpr ⟨w_running, w_runnable, w_alone, w_named, w_hears, w_ripe, w_room, w_tables⟩
theorem atStart : AtStart classFile x code maxLocals ret World_1 tables_1 room_1 Calls_1 rest_1 Pre_1 launch0 p0 e0 about1 theMethod args0 below0 :=
  ⟨lists_1, trivial, launch0.admits_env _ _ _, launch0.least_env, fairChoices_fair.cas, fairChoices_fair.clock, w_frames, w_args, w_heap, w_applies, trivial, trivial, w_case⟩
end start1
theorem witness_1 : WitnessClaimed_1 := ⟨start1.p0, start1.e0, start1.about1, start1.theMethod, start1.args0, start1.below0, start1.atStart⟩
end Jvm.Pilot.@@N@@
