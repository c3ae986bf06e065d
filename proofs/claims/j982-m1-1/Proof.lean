import JvmDerived
import JvmDerived.Pilot.@@N@@Statement
import JvmDerived.Pilot.@@N@@Code
set_option linter.unusedVariables false
set_option linter.unusedSimpArgs false
namespace Jvm.Pilot.@@N@@
open Jvm Jvm.ClassFile Sem Op Lib Jvm.Free Jvm.Stand Jvm.LawKit Jvm.RoadKit Bundle Jvm.Pilot.@@N@@.Jvm.D
theorem own_ord {args : Array Value} {s : State} {t : Term} {C n d : String} {a : Addr} {k : Int32} (et : t.eval args s none [] s = some (.ref a)) (h : (Cond.eq (.field t C n d) (.int k)).value args s none s [] = some true) : s.fieldOf? a C n d = some (.int k) := by
  have e := fld_at (C := C) (n := n) (dd := d) et
  obtain ⟨x, y, h1, h2, k1, k2⟩ := cmp_v (Or.inl h)
  have h2' : (some (.int k) : Option Value) = some y := h2
  obtain rfl := Option.some.inj h2'
  obtain ⟨z, rfl⟩ := k2
  have hz : z = k := by simpa [Cond.value, h1, h2] using h
  subst hz
  rw [← e]; exact h1
theorem own_ord_ne {s : State} {C n d : String} {a b : Addr} {j k : Int32} (h1 : s.fieldOf? a C n d = some (.int j)) (h2 : s.fieldOf? b C n d = some (.int k)) (q : j ≠ k) : ¬ a = b := fun e => by
  subst e
  exact q (Value.int.inj (Option.some.inj (h1.symm.trans h2)))
theorem d1_0 : decode prog_1_method_5_code 0 = .ok (.aload_n 0, 1) := by decide +kernel
theorem d1_1 : decode prog_1_method_5_code 1 = .ok (.getstatic 3, 3) := by decide +kernel
theorem d1_4 : decode prog_1_method_5_code 4 = .ok (.if_acmp .eq 7, 3) := by decide +kernel
theorem d1_11 : decode prog_1_method_5_code 11 = .ok (.iconst 0, 1) := by decide +kernel
theorem d1_12 : decode prog_1_method_5_code 12 = .ok (.ireturn, 1) := by decide +kernel
theorem d1_7 : decode prog_1_method_5_code 7 = .ok (.iconst 1, 1) := by decide +kernel
theorem d1_8 : decode prog_1_method_5_code 8 = .ok (.goto 4, 3) := by decide +kernel
theorem pn_7 : plainName "com/example/weftlock/weftlock/Access" = true := by first | (simp [plainName, overriddenIn]; done) | decide +kernel
theorem ef_rm1 (m : MethodId) (x0 : Addr) : entryFrame m #[(.ref x0)] 1 = mkF m 0 #[.val (.ref x0)] [] := by first | (simp [entryFrame, mkF, argsToLocals, Value.category]; done) | rfl
def own_ch (va : Addr) (a_READ : Addr) : Int32 := (if va = a_READ then (0 : Int32) else (1 : Int32))
def Q1 (Z : State) (va : Addr) (a_READ : Addr) (h0 : Heap) (n0 : Nat) (v : Option Value) (h : Heap) (L : List Loc) : Prop := v = some (.int (own_ch va a_READ)) ∧ Fr n0 L ∧ h = h0
set_option maxRecDepth 65536 in
set_option maxHeartbeats 40000000 in
theorem rm1 (l : Launch) (Z : State) (a0 : Array Value) (hw : ∀ d ∈ tables_1, d.before a0 Z = true) (ws : List Jvm.Cond) (va : Addr) (a_READ : Addr) (h0 : Heap) (n0 : Nat) (Z0 : n0 ≤ h0.size) (S_READ : Sta Z h0 "com/example/weftlock/weftlock/Access" "READ" "Lcom/example/weftlock/weftlock/Access;" (.ref a_READ)) :
    MetFree l (⟨"com/example/weftlock/weftlock/Access", "changes", "()Z"⟩ : MethodName) (head1 (Jvm.Cond.code (⟨"com/example/weftlock/weftlock/Access", "changes", "()Z"⟩ : MethodName) prog_1_method_5_code 1 (some .boolean) :: ws) ({ frames := 0, cells := 0, slots := 0, locals := 0 } : Room)) (fun a U => a = #[(.ref va)] ∧ Z.Warmed39 U.vm ∧ U.heap = h0) (fun _ _ _ _ _ => True) (fun _ U o U' => ∃ v L, o = .returned v ∧ Q1 Z va a_READ h0 n0 v U'.heap L ∧ FrameEnd U o U' L ({ frames := 0, cells := 0, slots := 0, locals := 0 } : Room).cells ({ frames := 0, cells := 0, slots := 0, locals := 0 } : Room).slots) := by
  refine MetFree.of_bodySF (plainFor_of_name pn_7) hisR ?_
  intro p e s m args below meth c s₁ Bd hml0 hP hK
  obtain ⟨rfl, hZ, hh⟩ := hP
  have hx := Bd.exec
  have hby := Bd.bytes
  have hml : c.maxLocals = 1 := hml0
  have hown : s.vm.findClass "com/example/weftlock/weftlock/Access" = some m.cls := findClass_of_methodNamed Bd.named
  have hnm := (name_of_methodNamed Bd.named Bd.method).1
  have X0 : Stand p l e ({ frames := 0, cells := 0, slots := 0, locals := 0 } : Room) s m #[(.ref va)] below meth c s₁ [] 0 0 := Stand.of_body Bd
  have e0 : s₁.heap = h0 := by rw [← hh, Bd.state]; rfl
  have N0 := Fr.nil n0
  have pre0 : ∀ t, Steps p.tables e below (s₁.setTop (mkF m 0 #[.val (.ref va)] [])) t → Steps p.tables e below (s₁.setTop (entryFrame m #[(.ref va)] 1)) t := fun t k => castTop (ef_rm1 m va) k
  obtain ⟨T1, X1, e1, st1⟩ := getS2 X0 hx hZ hown (host := "") (Or.inl (hw _ (List.mem_of_getElem? (i := 9) rfl))) Via.refl e0 S_READ (g := (mkF m 1 #[.val (.ref va)] [(.ref va)])) rfl (hb hby d1_1)
  have pre2 : ∀ t, Steps p.tables e below (T1.setTop (mkF m 4 #[.val (.ref va)] [(.ref a_READ), (.ref va)])) t → Steps p.tables e below (s₁.setTop (entryFrame m #[(.ref va)] 1)) t := by
    intro t kt
    refine pre0 t ?_
    show Steps p.tables e below (s₁.setTop (mkF m 0 #[.val (.ref va)] [])) _
    refine XS.aloadN X0.here hx rfl (hb hby d1_0) rfl rfl ?_
    show Steps p.tables e below (s₁.setTop (mkF m 1 #[.val (.ref va)] [(.ref va)])) _
    refine st1 _ ?_
    exact kt
  by_cases hc3 : va = a_READ
  ·
    obtain ⟨fs, hr, hrun, hended, hW, hsame⟩ := X1.leave (v := some (.int (0 : Int32))) (fun h => by rw [Bd.returns] at h; cases h)
    refine ⟨_, _, pre2 _ ?_, hrun, hended, _, _, rfl, ?_, ⟨_, rfl⟩, hW, hsame.mono (by decide) (by decide)⟩
    ·
      show Steps p.tables e below (T1.setTop (mkF m 4 #[.val (.ref va)] [(.ref a_READ), (.ref va)])) _
      refine Jvm.RoadKit.acmp (g := (mkF m 4 #[.val (.ref va)] [(.ref a_READ), (.ref va)])) X1 hx rfl rfl rfl (pc0 := 4) (pc' := 11) (same := true) rfl (hb hby d1_4) rfl (decide_eq_true (congrArg Value.ref (hc3 : va = a_READ))) (by decide) (by decide) ?_
      show Steps p.tables e below (T1.setTop (mkF m 11 #[.val (.ref va)] [])) _
      refine XS.iconst X1.here hx rfl (hb hby d1_11) ?_
      show Steps p.tables e below (T1.setTop (mkF m 12 #[.val (.ref va)] [(.int (0 : Int32))])) _
      exact retN X1 hx (t := .boolean) Bd.returns (by simp) (hb hby d1_12) hr
    ·
      show Q1 Z va a_READ h0 n0 _ T1.heap _
      rw [e1]
      have hv : (0 : Int32) = (own_ch va a_READ) := by rw [own_ch, if_pos hc3]
      exact ⟨(congrArg (fun z => some (Value.int z)) hv), N0, rfl⟩
  ·
    obtain ⟨fs, hr, hrun, hended, hW, hsame⟩ := X1.leave (v := some (.int (1 : Int32))) (fun h => by rw [Bd.returns] at h; cases h)
    refine ⟨_, _, pre2 _ ?_, hrun, hended, _, _, rfl, ?_, ⟨_, rfl⟩, hW, hsame.mono (by decide) (by decide)⟩
    ·
      show Steps p.tables e below (T1.setTop (mkF m 4 #[.val (.ref va)] [(.ref a_READ), (.ref va)])) _
      refine Jvm.RoadKit.acmp (g := (mkF m 4 #[.val (.ref va)] [(.ref a_READ), (.ref va)])) X1 hx rfl rfl rfl (pc0 := 4) (pc' := 7) (same := false) rfl (hb hby d1_4) rfl (decide_eq_false fun q => (hc3 : ¬ (va = a_READ)) (Value.ref.inj q)) (by decide) (by decide) ?_
      show Steps p.tables e below (T1.setTop (mkF m 7 #[.val (.ref va)] [])) _
      refine XS.iconst X1.here hx rfl (hb hby d1_7) ?_
      show Steps p.tables e below (T1.setTop (mkF m 8 #[.val (.ref va)] [(.int (1 : Int32))])) _
      refine XS.goto X1.here hx rfl (pc0 := 8) (pc' := 12) rfl (hb hby d1_8) (by decide) (by decide) ?_
      show Steps p.tables e below (T1.setTop (mkF m 12 #[.val (.ref va)] [(.int (1 : Int32))])) _
      exact retN X1 hx (t := .boolean) Bd.returns (by simp) (hb hby d1_12) hr
    ·
      show Q1 Z va a_READ h0 n0 _ T1.heap _
      rw [e1]
      have hv : (1 : Int32) = (own_ch va a_READ) := by rw [own_ch, if_neg hc3]
      exact ⟨(congrArg (fun z => some (Value.int z)) hv), N0, rfl⟩
theorem pd_0 : parseMethodDescriptor "()Z" = some ⟨[], some .boolean⟩ := by decide +kernel
theorem pn_8 : plainName "com/example/weftlock/weftlock/AccessChangesPinLaw" = true := by first | (simp [plainName, overriddenIn]; done) | decide +kernel
theorem ef_rm0 (m : MethodId) (x0 : Int32) : entryFrame m #[(.int x0)] maxLocals = mkF m 0 #[.val (.int x0), .unset, .unset, .unset] [] := by first | (simp [entryFrame, mkF, argsToLocals, Value.category, maxLocals]; done) | rfl
def Q0 (Z : State) (vk : Int32) (a_READ : Addr) (a_WRITE : Addr) (a_UPDATE : Addr) (h0 : Heap) (n0 : Nat) (v : Option Value) (h : Heap) (L : List Loc) : Prop := v = some (.int (1 : Int32)) ∧ Fr n0 L
set_option maxRecDepth 65536 in
set_option maxHeartbeats 40000000 in
theorem rm0 (l : Launch) (Z : State) (a0 : Array Value) (hw : ∀ d ∈ tables_1, d.before a0 Z = true) (ws : List Jvm.Cond) (vk : Int32) (a_READ : Addr) (a_WRITE : Addr) (a_UPDATE : Addr) (h0 : Heap) (n0 : Nat) (Z0 : n0 ≤ h0.size) (S_READ : Sta Z h0 "com/example/weftlock/weftlock/Access" "READ" "Lcom/example/weftlock/weftlock/Access;" (.ref a_READ)) (S_WRITE : Sta Z h0 "com/example/weftlock/weftlock/Access" "WRITE" "Lcom/example/weftlock/weftlock/Access;" (.ref a_WRITE)) (S_UPDATE : Sta Z h0 "com/example/weftlock/weftlock/Access" "UPDATE" "Lcom/example/weftlock/weftlock/Access;" (.ref a_UPDATE)) (E_READ : Exa Z h0 a_READ "com/example/weftlock/weftlock/Access") (E_WRITE : Exa Z h0 a_WRITE "com/example/weftlock/weftlock/Access") (E_UPDATE : Exa Z h0 a_UPDATE "com/example/weftlock/weftlock/Access") (nW : ¬ a_WRITE = a_READ) (nU : ¬ a_UPDATE = a_READ) :
    MetFree l x (head1 (Jvm.Cond.code x code maxLocals ret :: ws) room_1) (fun a U => a = #[(.int vk)] ∧ Z.Warmed39 U.vm ∧ U.heap = h0) (fun _ _ _ _ _ => True) (fun _ U o U' => ∃ v L, o = .returned v ∧ Q0 Z vk a_READ a_WRITE a_UPDATE h0 n0 v U'.heap L ∧ FrameEnd U o U' L room_1.cells room_1.slots) := by
  refine MetFree.of_bodySF (plainFor_of_name pn_8) hisR ?_
  intro p e s m args below meth c s₁ Bd hml0 hP hK
  obtain ⟨rfl, hZ, hh⟩ := hP
  have hx := Bd.exec
  have hby := Bd.bytes
  have hml : c.maxLocals = 4 := hml0
  have hown : s.vm.findClass "com/example/weftlock/weftlock/AccessChangesPinLaw" = some m.cls := findClass_of_methodNamed Bd.named
  have hnm := (name_of_methodNamed Bd.named Bd.method).1
  have X0 : Stand p l e room_1 s m #[(.int vk)] below meth c s₁ [] 0 0 := Stand.of_body Bd
  have e0 : s₁.heap = h0 := by rw [← hh, Bd.state]; rfl
  have N0 := Fr.nil n0
  have pre0 : ∀ t, Steps p.tables e below (s₁.setTop (mkF m 0 #[.val (.int vk), .unset, .unset, .unset] [])) t → Steps p.tables e below (s₁.setTop (entryFrame m #[(.int vk)] maxLocals)) t := fun t k => castTop (ef_rm0 m vk) k
  have pre1 : ∀ t, Steps p.tables e below (s₁.setTop (mkF m 8 #[.val (.int vk), .val (.int ((vk &&& (2147483647 : Int32)) % (3 : Int32))), .unset, .unset] [(.int ((vk &&& (2147483647 : Int32)) % (3 : Int32)))])) t → Steps p.tables e below (s₁.setTop (entryFrame m #[(.int vk)] maxLocals)) t := by
    intro t kt
    refine pre0 t ?_
    show Steps p.tables e below (s₁.setTop (mkF m 0 #[.val (.int vk), .unset, .unset, .unset] [])) _
    refine XS.iloadN X0.here hx rfl (hb hby at_0) rfl ?_
    show Steps p.tables e below (s₁.setTop (mkF m 1 #[.val (.int vk), .unset, .unset, .unset] [(.int vk)])) _
    refine X0.ldcI hx hown (mvT hZ (hw _ (List.mem_of_getElem? (i := 0) rfl))) (g := (mkF m 1 #[.val (.int vk), .unset, .unset, .unset] [(.int vk)])) rfl (hb hby at_1) ?_
    show Steps p.tables e below (s₁.setTop (mkF m 3 #[.val (.int vk), .unset, .unset, .unset] [(.int (2147483647 : Int32)), (.int vk)])) _
    refine XS.iand X0.here hx rfl (hb hby at_3) rfl ?_
    show Steps p.tables e below (s₁.setTop (mkF m 4 #[.val (.int vk), .unset, .unset, .unset] [(.int (vk &&& (2147483647 : Int32)))])) _
    refine XS.iconst X0.here hx rfl (hb hby at_4) ?_
    show Steps p.tables e below (s₁.setTop (mkF m 5 #[.val (.int vk), .unset, .unset, .unset] [(.int (3 : Int32)), (.int (vk &&& (2147483647 : Int32)))])) _
    refine iremM X0 hx rfl (hb hby at_5) rfl (by decide) ?_
    show Steps p.tables e below (s₁.setTop (mkF m 6 #[.val (.int vk), .unset, .unset, .unset] [(.int ((vk &&& (2147483647 : Int32)) % (3 : Int32)))])) _
    refine XS.istoreN X0.here hx rfl (hb hby at_6) rfl (l' := #[.val (.int vk), .val (.int ((vk &&& (2147483647 : Int32)) % (3 : Int32))), .unset, .unset]) rfl ?_
    show Steps p.tables e below (s₁.setTop (mkF m 7 #[.val (.int vk), .val (.int ((vk &&& (2147483647 : Int32)) % (3 : Int32))), .unset, .unset] [])) _
    refine XS.iloadN X0.here hx rfl (hb hby at_7) rfl ?_
    exact kt
  by_cases hc2 : ((vk &&& (2147483647 : Int32)) % (3 : Int32)) = (0 : Int32)
  ·
    obtain ⟨T3, X3, e3, st3⟩ := getS2 X0 hx hZ hown (host := "") (Or.inl (hw _ (List.mem_of_getElem? (i := 1) rfl))) Via.refl e0 S_READ (g := (mkF m 11 #[.val (.int vk), .val (.int ((vk &&& (2147483647 : Int32)) % (3 : Int32))), .unset, .unset] [])) rfl (hb hby at_11)
    obtain ⟨cq4, kq4, q4a, q4b, q4c⟩ := isOf hZ e3 E_READ
    obtain ⟨_, _, ⟨T4, L4, k4, n4⟩, -, X4, ⟨Lc4, hQ4, l4, y4, z4⟩, st4⟩ := X3.virtualBack hx (y := (⟨"com/example/weftlock/weftlock/Access", "changes", "()Z"⟩ : MethodName)) (z := (⟨"com/example/weftlock/weftlock/Access", "changes", "()Z"⟩ : MethodName)) hown (mvT hZ (hw _ (List.mem_of_getElem? (i := 4) rfl))) (mvT hZ (hw _ (List.mem_of_getElem? (i := 5) rfl))) (notFace_of_selects (args := #[]) (mvT hZ (hw _ (List.mem_of_getElem? (i := 7) rfl)))) (mvT hZ (hw _ (List.mem_of_getElem? (i := 7) rfl))) (mvT hZ (hw _ (List.mem_of_getElem? (i := 6) rfl))) (by decide) (backOf (W := 0) (rm1 l Z a0 hw [] a_READ a_READ h0 n0 Z0 S_READ) hZ (hw _ (List.mem_of_getElem? (i := 8) rfl)) (hw _ (List.mem_of_getElem? (i := 2) rfl)) (by decide) (by decide)) q4a q4c (g := (mkF m 41 #[.val (.int vk), .val (.int ((vk &&& (2147483647 : Int32)) % (3 : Int32))), .val (.ref a_READ), .val (.int (0 : Int32))] [(.ref a_READ)])) rfl (by rw [hml]; rfl) (Steps.refl _) (argsL := []) (rest := []) (lenOf pd_0 rfl) rfl (by show 2 * 0 + _ ≤ _; exact Nat.le_of_eq rfl) (hb hby at_41) (fun _ _ => ⟨rfl, e3, (by decide : 0 + 0 ≤ _), (by decide : 0 + 0 ≤ _)⟩)
    dsimp only [Pt.U, Pt.locs, Pt.cells, Pt.slots] at X4 l4 y4 z4 st4 hQ4
    subst l4 y4 z4
    obtain ⟨rfl, N4q, e4q⟩ := hQ4
    have N4 := Fr.app N0 N4q
    obtain ⟨fs, hr, hrun, hended, hW, hsame⟩ := X4.leave (v := some (.int (1 : Int32))) (fun h => by rw [Bd.returns] at h; cases h)
    refine ⟨_, _, pre1 _ ?_, hrun, hended, _, _, rfl, ?_, ⟨_, rfl⟩, hW, hsame.mono (by decide) (by decide)⟩
    ·
      show Steps p.tables e below (s₁.setTop (mkF m 8 #[.val (.int vk), .val (.int ((vk &&& (2147483647 : Int32)) % (3 : Int32))), .unset, .unset] [(.int ((vk &&& (2147483647 : Int32)) % (3 : Int32)))])) _
      refine XS.ifNo X0.here hx rfl (hb hby at_8) rfl ((if0 _ _).trans (teq (hc2 : ((vk &&& (2147483647 : Int32)) % (3 : Int32)) = (0 : Int32))).2) ?_
      show Steps p.tables e below (s₁.setTop (mkF m 11 #[.val (.int vk), .val (.int ((vk &&& (2147483647 : Int32)) % (3 : Int32))), .unset, .unset] [])) _
      refine st3 _ ?_
      show Steps p.tables e below (T3.setTop (mkF m 14 #[.val (.int vk), .val (.int ((vk &&& (2147483647 : Int32)) % (3 : Int32))), .unset, .unset] [(.ref a_READ)])) _
      refine XS.astoreN X3.here hx rfl (hb hby at_14) rfl rfl (l' := #[.val (.int vk), .val (.int ((vk &&& (2147483647 : Int32)) % (3 : Int32))), .val (.ref a_READ), .unset]) rfl ?_
      show Steps p.tables e below (T3.setTop (mkF m 15 #[.val (.int vk), .val (.int ((vk &&& (2147483647 : Int32)) % (3 : Int32))), .val (.ref a_READ), .unset] [])) _
      refine XS.iconst X3.here hx rfl (hb hby at_15) ?_
      show Steps p.tables e below (T3.setTop (mkF m 16 #[.val (.int vk), .val (.int ((vk &&& (2147483647 : Int32)) % (3 : Int32))), .val (.ref a_READ), .unset] [(.int (0 : Int32))])) _
      refine XS.istoreN X3.here hx rfl (hb hby at_16) rfl (l' := #[.val (.int vk), .val (.int ((vk &&& (2147483647 : Int32)) % (3 : Int32))), .val (.ref a_READ), .val (.int (0 : Int32))]) rfl ?_
      show Steps p.tables e below (T3.setTop (mkF m 17 #[.val (.int vk), .val (.int ((vk &&& (2147483647 : Int32)) % (3 : Int32))), .val (.ref a_READ), .val (.int (0 : Int32))] [])) _
      refine XS.goto X3.here hx rfl (pc0 := 17) (pc' := 40) rfl (hb hby at_17) (by decide) (by decide) ?_
      show Steps p.tables e below (T3.setTop (mkF m 40 #[.val (.int vk), .val (.int ((vk &&& (2147483647 : Int32)) % (3 : Int32))), .val (.ref a_READ), .val (.int (0 : Int32))] [])) _
      refine XS.aloadN X3.here hx rfl (hb hby at_40) rfl rfl ?_
      show Steps p.tables e below (T3.setTop (mkF m 41 #[.val (.int vk), .val (.int ((vk &&& (2147483647 : Int32)) % (3 : Int32))), .val (.ref a_READ), .val (.int (0 : Int32))] [(.ref a_READ)])) _
      refine st4.trans ?_
      show Steps p.tables e below (T4.setTop (mkF m 44 #[.val (.int vk), .val (.int ((vk &&& (2147483647 : Int32)) % (3 : Int32))), .val (.ref a_READ), .val (.int (0 : Int32))] [(.int (own_ch a_READ a_READ))])) _
      refine XS.iloadN X4.here hx rfl (hb hby at_44) rfl ?_
      show Steps p.tables e below (T4.setTop (mkF m 45 #[.val (.int vk), .val (.int ((vk &&& (2147483647 : Int32)) % (3 : Int32))), .val (.ref a_READ), .val (.int (0 : Int32))] [(.int (0 : Int32)), (.int (own_ch a_READ a_READ))])) _
      refine XS.icmpNo X4.here hx rfl (hb hby at_45) rfl (teq ((by simp [own_ch, nW, nU]) : (own_ch a_READ a_READ) = (0 : Int32))).2 ?_
      show Steps p.tables e below (T4.setTop (mkF m 48 #[.val (.int vk), .val (.int ((vk &&& (2147483647 : Int32)) % (3 : Int32))), .val (.ref a_READ), .val (.int (0 : Int32))] [])) _
      refine XS.iconst X4.here hx rfl (hb hby at_48) ?_
      show Steps p.tables e below (T4.setTop (mkF m 49 #[.val (.int vk), .val (.int ((vk &&& (2147483647 : Int32)) % (3 : Int32))), .val (.ref a_READ), .val (.int (0 : Int32))] [(.int (1 : Int32))])) _
      refine XS.goto X4.here hx rfl (pc0 := 49) (pc' := 53) rfl (hb hby at_49) (by decide) (by decide) ?_
      show Steps p.tables e below (T4.setTop (mkF m 53 #[.val (.int vk), .val (.int ((vk &&& (2147483647 : Int32)) % (3 : Int32))), .val (.ref a_READ), .val (.int (0 : Int32))] [(.int (1 : Int32))])) _
      exact retN X4 hx (t := .boolean) Bd.returns (by simp) (hb hby at_53) hr
    ·
      show Q0 Z vk a_READ a_WRITE a_UPDATE h0 n0 _ T4.heap _
      rw [e4q]
      exact ⟨rfl, N4⟩
  ·
    have pre5 : ∀ t, Steps p.tables e below (s₁.setTop (mkF m 22 #[.val (.int vk), .val (.int ((vk &&& (2147483647 : Int32)) % (3 : Int32))), .unset, .unset] [(.int (1 : Int32)), (.int ((vk &&& (2147483647 : Int32)) % (3 : Int32)))])) t → Steps p.tables e below (s₁.setTop (entryFrame m #[(.int vk)] maxLocals)) t := by
      intro t kt
      refine pre1 t ?_
      show Steps p.tables e below (s₁.setTop (mkF m 8 #[.val (.int vk), .val (.int ((vk &&& (2147483647 : Int32)) % (3 : Int32))), .unset, .unset] [(.int ((vk &&& (2147483647 : Int32)) % (3 : Int32)))])) _
      refine XS.ifYes X0.here hx rfl (pc0 := 8) (pc' := 20) rfl (hb hby at_8) rfl ((if0 _ _).trans (feq (hc2 : ¬ (((vk &&& (2147483647 : Int32)) % (3 : Int32)) = (0 : Int32)))).2) (by decide) (by decide) ?_
      show Steps p.tables e below (s₁.setTop (mkF m 20 #[.val (.int vk), .val (.int ((vk &&& (2147483647 : Int32)) % (3 : Int32))), .unset, .unset] [])) _
      refine XS.iloadN X0.here hx rfl (hb hby at_20) rfl ?_
      show Steps p.tables e below (s₁.setTop (mkF m 21 #[.val (.int vk), .val (.int ((vk &&& (2147483647 : Int32)) % (3 : Int32))), .unset, .unset] [(.int ((vk &&& (2147483647 : Int32)) % (3 : Int32)))])) _
      refine XS.iconst X0.here hx rfl (hb hby at_21) ?_
      exact kt
    by_cases hc6 : ((vk &&& (2147483647 : Int32)) % (3 : Int32)) = (1 : Int32)
    ·
      obtain ⟨T7, X7, e7, st7⟩ := getS2 X0 hx hZ hown (host := "") (Or.inl (hw _ (List.mem_of_getElem? (i := 12) rfl))) Via.refl e0 S_WRITE (g := (mkF m 25 #[.val (.int vk), .val (.int ((vk &&& (2147483647 : Int32)) % (3 : Int32))), .unset, .unset] [])) rfl (hb hby at_25)
      obtain ⟨cq8, kq8, q8a, q8b, q8c⟩ := isOf hZ e7 E_WRITE
      obtain ⟨_, _, ⟨T8, L8, k8, n8⟩, -, X8, ⟨Lc8, hQ8, l8, y8, z8⟩, st8⟩ := X7.virtualBack hx (y := (⟨"com/example/weftlock/weftlock/Access", "changes", "()Z"⟩ : MethodName)) (z := (⟨"com/example/weftlock/weftlock/Access", "changes", "()Z"⟩ : MethodName)) hown (mvT hZ (hw _ (List.mem_of_getElem? (i := 4) rfl))) (mvT hZ (hw _ (List.mem_of_getElem? (i := 5) rfl))) (notFace_of_selects (args := #[]) (mvT hZ (hw _ (List.mem_of_getElem? (i := 7) rfl)))) (mvT hZ (hw _ (List.mem_of_getElem? (i := 7) rfl))) (mvT hZ (hw _ (List.mem_of_getElem? (i := 6) rfl))) (by decide) (backOf (W := 0) (rm1 l Z a0 hw [] a_WRITE a_READ h0 n0 Z0 S_READ) hZ (hw _ (List.mem_of_getElem? (i := 8) rfl)) (hw _ (List.mem_of_getElem? (i := 2) rfl)) (by decide) (by decide)) q8a q8c (g := (mkF m 41 #[.val (.int vk), .val (.int ((vk &&& (2147483647 : Int32)) % (3 : Int32))), .val (.ref a_WRITE), .val (.int (1 : Int32))] [(.ref a_WRITE)])) rfl (by rw [hml]; rfl) (Steps.refl _) (argsL := []) (rest := []) (lenOf pd_0 rfl) rfl (by show 2 * 0 + _ ≤ _; exact Nat.le_of_eq rfl) (hb hby at_41) (fun _ _ => ⟨rfl, e7, (by decide : 0 + 0 ≤ _), (by decide : 0 + 0 ≤ _)⟩)
      dsimp only [Pt.U, Pt.locs, Pt.cells, Pt.slots] at X8 l8 y8 z8 st8 hQ8
      subst l8 y8 z8
      obtain ⟨rfl, N8q, e8q⟩ := hQ8
      have N8 := Fr.app N0 N8q
      obtain ⟨fs, hr, hrun, hended, hW, hsame⟩ := X8.leave (v := some (.int (1 : Int32))) (fun h => by rw [Bd.returns] at h; cases h)
      refine ⟨_, _, pre5 _ ?_, hrun, hended, _, _, rfl, ?_, ⟨_, rfl⟩, hW, hsame.mono (by decide) (by decide)⟩
      ·
        show Steps p.tables e below (s₁.setTop (mkF m 22 #[.val (.int vk), .val (.int ((vk &&& (2147483647 : Int32)) % (3 : Int32))), .unset, .unset] [(.int (1 : Int32)), (.int ((vk &&& (2147483647 : Int32)) % (3 : Int32)))])) _
        refine XS.icmpNo X0.here hx rfl (hb hby at_22) rfl (teq (hc6 : ((vk &&& (2147483647 : Int32)) % (3 : Int32)) = (1 : Int32))).2 ?_
        show Steps p.tables e below (s₁.setTop (mkF m 25 #[.val (.int vk), .val (.int ((vk &&& (2147483647 : Int32)) % (3 : Int32))), .unset, .unset] [])) _
        refine st7 _ ?_
        show Steps p.tables e below (T7.setTop (mkF m 28 #[.val (.int vk), .val (.int ((vk &&& (2147483647 : Int32)) % (3 : Int32))), .unset, .unset] [(.ref a_WRITE)])) _
        refine XS.astoreN X7.here hx rfl (hb hby at_28) rfl rfl (l' := #[.val (.int vk), .val (.int ((vk &&& (2147483647 : Int32)) % (3 : Int32))), .val (.ref a_WRITE), .unset]) rfl ?_
        show Steps p.tables e below (T7.setTop (mkF m 29 #[.val (.int vk), .val (.int ((vk &&& (2147483647 : Int32)) % (3 : Int32))), .val (.ref a_WRITE), .unset] [])) _
        refine XS.iconst X7.here hx rfl (hb hby at_29) ?_
        show Steps p.tables e below (T7.setTop (mkF m 30 #[.val (.int vk), .val (.int ((vk &&& (2147483647 : Int32)) % (3 : Int32))), .val (.ref a_WRITE), .unset] [(.int (1 : Int32))])) _
        refine XS.istoreN X7.here hx rfl (hb hby at_30) rfl (l' := #[.val (.int vk), .val (.int ((vk &&& (2147483647 : Int32)) % (3 : Int32))), .val (.ref a_WRITE), .val (.int (1 : Int32))]) rfl ?_
        show Steps p.tables e below (T7.setTop (mkF m 31 #[.val (.int vk), .val (.int ((vk &&& (2147483647 : Int32)) % (3 : Int32))), .val (.ref a_WRITE), .val (.int (1 : Int32))] [])) _
        refine XS.goto X7.here hx rfl (pc0 := 31) (pc' := 40) rfl (hb hby at_31) (by decide) (by decide) ?_
        show Steps p.tables e below (T7.setTop (mkF m 40 #[.val (.int vk), .val (.int ((vk &&& (2147483647 : Int32)) % (3 : Int32))), .val (.ref a_WRITE), .val (.int (1 : Int32))] [])) _
        refine XS.aloadN X7.here hx rfl (hb hby at_40) rfl rfl ?_
        show Steps p.tables e below (T7.setTop (mkF m 41 #[.val (.int vk), .val (.int ((vk &&& (2147483647 : Int32)) % (3 : Int32))), .val (.ref a_WRITE), .val (.int (1 : Int32))] [(.ref a_WRITE)])) _
        refine st8.trans ?_
        show Steps p.tables e below (T8.setTop (mkF m 44 #[.val (.int vk), .val (.int ((vk &&& (2147483647 : Int32)) % (3 : Int32))), .val (.ref a_WRITE), .val (.int (1 : Int32))] [(.int (own_ch a_WRITE a_READ))])) _
        refine XS.iloadN X8.here hx rfl (hb hby at_44) rfl ?_
        show Steps p.tables e below (T8.setTop (mkF m 45 #[.val (.int vk), .val (.int ((vk &&& (2147483647 : Int32)) % (3 : Int32))), .val (.ref a_WRITE), .val (.int (1 : Int32))] [(.int (1 : Int32)), (.int (own_ch a_WRITE a_READ))])) _
        refine XS.icmpNo X8.here hx rfl (hb hby at_45) rfl (teq ((by simp [own_ch, nW, nU]) : (own_ch a_WRITE a_READ) = (1 : Int32))).2 ?_
        show Steps p.tables e below (T8.setTop (mkF m 48 #[.val (.int vk), .val (.int ((vk &&& (2147483647 : Int32)) % (3 : Int32))), .val (.ref a_WRITE), .val (.int (1 : Int32))] [])) _
        refine XS.iconst X8.here hx rfl (hb hby at_48) ?_
        show Steps p.tables e below (T8.setTop (mkF m 49 #[.val (.int vk), .val (.int ((vk &&& (2147483647 : Int32)) % (3 : Int32))), .val (.ref a_WRITE), .val (.int (1 : Int32))] [(.int (1 : Int32))])) _
        refine XS.goto X8.here hx rfl (pc0 := 49) (pc' := 53) rfl (hb hby at_49) (by decide) (by decide) ?_
        show Steps p.tables e below (T8.setTop (mkF m 53 #[.val (.int vk), .val (.int ((vk &&& (2147483647 : Int32)) % (3 : Int32))), .val (.ref a_WRITE), .val (.int (1 : Int32))] [(.int (1 : Int32))])) _
        exact retN X8 hx (t := .boolean) Bd.returns (by simp) (hb hby at_53) hr
      ·
        show Q0 Z vk a_READ a_WRITE a_UPDATE h0 n0 _ T8.heap _
        rw [e8q]
        exact ⟨rfl, N8⟩
    ·
      obtain ⟨T9, X9, e9, st9⟩ := getS2 X0 hx hZ hown (host := "") (Or.inl (hw _ (List.mem_of_getElem? (i := 10) rfl))) Via.refl e0 S_UPDATE (g := (mkF m 34 #[.val (.int vk), .val (.int ((vk &&& (2147483647 : Int32)) % (3 : Int32))), .unset, .unset] [])) rfl (hb hby at_34)
      obtain ⟨cq10, kq10, q10a, q10b, q10c⟩ := isOf hZ e9 E_UPDATE
      obtain ⟨_, _, ⟨T10, L10, k10, n10⟩, -, X10, ⟨Lc10, hQ10, l10, y10, z10⟩, st10⟩ := X9.virtualBack hx (y := (⟨"com/example/weftlock/weftlock/Access", "changes", "()Z"⟩ : MethodName)) (z := (⟨"com/example/weftlock/weftlock/Access", "changes", "()Z"⟩ : MethodName)) hown (mvT hZ (hw _ (List.mem_of_getElem? (i := 4) rfl))) (mvT hZ (hw _ (List.mem_of_getElem? (i := 5) rfl))) (notFace_of_selects (args := #[]) (mvT hZ (hw _ (List.mem_of_getElem? (i := 7) rfl)))) (mvT hZ (hw _ (List.mem_of_getElem? (i := 7) rfl))) (mvT hZ (hw _ (List.mem_of_getElem? (i := 6) rfl))) (by decide) (backOf (W := 0) (rm1 l Z a0 hw [] a_UPDATE a_READ h0 n0 Z0 S_READ) hZ (hw _ (List.mem_of_getElem? (i := 8) rfl)) (hw _ (List.mem_of_getElem? (i := 2) rfl)) (by decide) (by decide)) q10a q10c (g := (mkF m 41 #[.val (.int vk), .val (.int ((vk &&& (2147483647 : Int32)) % (3 : Int32))), .val (.ref a_UPDATE), .val (.int (1 : Int32))] [(.ref a_UPDATE)])) rfl (by rw [hml]; rfl) (Steps.refl _) (argsL := []) (rest := []) (lenOf pd_0 rfl) rfl (by show 2 * 0 + _ ≤ _; exact Nat.le_of_eq rfl) (hb hby at_41) (fun _ _ => ⟨rfl, e9, (by decide : 0 + 0 ≤ _), (by decide : 0 + 0 ≤ _)⟩)
      dsimp only [Pt.U, Pt.locs, Pt.cells, Pt.slots] at X10 l10 y10 z10 st10 hQ10
      subst l10 y10 z10
      obtain ⟨rfl, N10q, e10q⟩ := hQ10
      have N10 := Fr.app N0 N10q
      obtain ⟨fs, hr, hrun, hended, hW, hsame⟩ := X10.leave (v := some (.int (1 : Int32))) (fun h => by rw [Bd.returns] at h; cases h)
      refine ⟨_, _, pre5 _ ?_, hrun, hended, _, _, rfl, ?_, ⟨_, rfl⟩, hW, hsame.mono (by decide) (by decide)⟩
      ·
        show Steps p.tables e below (s₁.setTop (mkF m 22 #[.val (.int vk), .val (.int ((vk &&& (2147483647 : Int32)) % (3 : Int32))), .unset, .unset] [(.int (1 : Int32)), (.int ((vk &&& (2147483647 : Int32)) % (3 : Int32)))])) _
        refine XS.icmpYes X0.here hx rfl (pc0 := 22) (pc' := 34) rfl (hb hby at_22) rfl (feq (hc6 : ¬ (((vk &&& (2147483647 : Int32)) % (3 : Int32)) = (1 : Int32)))).2 (by decide) (by decide) ?_
        show Steps p.tables e below (s₁.setTop (mkF m 34 #[.val (.int vk), .val (.int ((vk &&& (2147483647 : Int32)) % (3 : Int32))), .unset, .unset] [])) _
        refine st9 _ ?_
        show Steps p.tables e below (T9.setTop (mkF m 37 #[.val (.int vk), .val (.int ((vk &&& (2147483647 : Int32)) % (3 : Int32))), .unset, .unset] [(.ref a_UPDATE)])) _
        refine XS.astoreN X9.here hx rfl (hb hby at_37) rfl rfl (l' := #[.val (.int vk), .val (.int ((vk &&& (2147483647 : Int32)) % (3 : Int32))), .val (.ref a_UPDATE), .unset]) rfl ?_
        show Steps p.tables e below (T9.setTop (mkF m 38 #[.val (.int vk), .val (.int ((vk &&& (2147483647 : Int32)) % (3 : Int32))), .val (.ref a_UPDATE), .unset] [])) _
        refine XS.iconst X9.here hx rfl (hb hby at_38) ?_
        show Steps p.tables e below (T9.setTop (mkF m 39 #[.val (.int vk), .val (.int ((vk &&& (2147483647 : Int32)) % (3 : Int32))), .val (.ref a_UPDATE), .unset] [(.int (1 : Int32))])) _
        refine XS.istoreN X9.here hx rfl (hb hby at_39) rfl (l' := #[.val (.int vk), .val (.int ((vk &&& (2147483647 : Int32)) % (3 : Int32))), .val (.ref a_UPDATE), .val (.int (1 : Int32))]) rfl ?_
        show Steps p.tables e below (T9.setTop (mkF m 40 #[.val (.int vk), .val (.int ((vk &&& (2147483647 : Int32)) % (3 : Int32))), .val (.ref a_UPDATE), .val (.int (1 : Int32))] [])) _
        refine XS.aloadN X9.here hx rfl (hb hby at_40) rfl rfl ?_
        show Steps p.tables e below (T9.setTop (mkF m 41 #[.val (.int vk), .val (.int ((vk &&& (2147483647 : Int32)) % (3 : Int32))), .val (.ref a_UPDATE), .val (.int (1 : Int32))] [(.ref a_UPDATE)])) _
        refine st10.trans ?_
        show Steps p.tables e below (T10.setTop (mkF m 44 #[.val (.int vk), .val (.int ((vk &&& (2147483647 : Int32)) % (3 : Int32))), .val (.ref a_UPDATE), .val (.int (1 : Int32))] [(.int (own_ch a_UPDATE a_READ))])) _
        refine XS.iloadN X10.here hx rfl (hb hby at_44) rfl ?_
        show Steps p.tables e below (T10.setTop (mkF m 45 #[.val (.int vk), .val (.int ((vk &&& (2147483647 : Int32)) % (3 : Int32))), .val (.ref a_UPDATE), .val (.int (1 : Int32))] [(.int (1 : Int32)), (.int (own_ch a_UPDATE a_READ))])) _
        refine XS.icmpNo X10.here hx rfl (hb hby at_45) rfl (teq ((by simp [own_ch, nW, nU]) : (own_ch a_UPDATE a_READ) = (1 : Int32))).2 ?_
        show Steps p.tables e below (T10.setTop (mkF m 48 #[.val (.int vk), .val (.int ((vk &&& (2147483647 : Int32)) % (3 : Int32))), .val (.ref a_UPDATE), .val (.int (1 : Int32))] [])) _
        refine XS.iconst X10.here hx rfl (hb hby at_48) ?_
        show Steps p.tables e below (T10.setTop (mkF m 49 #[.val (.int vk), .val (.int ((vk &&& (2147483647 : Int32)) % (3 : Int32))), .val (.ref a_UPDATE), .val (.int (1 : Int32))] [(.int (1 : Int32))])) _
        refine XS.goto X10.here hx rfl (pc0 := 49) (pc' := 53) rfl (hb hby at_49) (by decide) (by decide) ?_
        show Steps p.tables e below (T10.setTop (mkF m 53 #[.val (.int vk), .val (.int ((vk &&& (2147483647 : Int32)) % (3 : Int32))), .val (.ref a_UPDATE), .val (.int (1 : Int32))] [(.int (1 : Int32))])) _
        exact retN X10 hx (t := .boolean) Bd.returns (by simp) (hb hby at_53) hr
      ·
        show Q0 Z vk a_READ a_WRITE a_UPDATE h0 n0 _ T10.heap _
        rw [e10q]
        exact ⟨rfl, N10⟩
set_option maxRecDepth 65536 in
set_option maxHeartbeats 40000000 in
theorem comes_1 {Post : Tables → Env → Array Value → State → Outcome → State → Prop} (hpost : ∀ tb e args s v u, (limb_1_1.after args s (.returned v) u = true ∧ limb_1_2.after args s (.returned v) u = true ∧ True) → FrameEnd s (.returned v) u (Jvm.fieldLocs frame_1_writes args s ++ Jvm.arrayLocs frame_1_arrays args s ++ Jvm.staticLocs frame_1_statics s) 0 0 → Post tb e args s (.returned v) u) :
    ArmFor flags0 classFile x code maxLocals ret World_1 tables_1 room_1 Calls_1 rest_1 Pre_1 Post := by
  intro l hfl _ _ p e ha hc hk s m args below hf hA hF happ hP
  obtain ⟨hcalls, hrest, hpre⟩ := hP
  obtain ⟨-, -, -, hnamed, -, -, -, hat⟩ := (Spec.applies_iff hf).mp happ
  obtain ⟨hg, hn⟩ := and_e (Cond.before_iff.mp (show (Jvm.Cond.and given_1 narrow_1).before args s = true from hpre))
  obtain ⟨g1a, g1b⟩ := and_e hg
  obtain ⟨g2a, g2b⟩ := and_e hn
  obtain ⟨g3a, g3b⟩ := and_e g2b
  obtain ⟨g4a, g4b⟩ := and_e g3b
  obtain ⟨g5a, g5b⟩ := and_e g4b
  obtain ⟨g6a, g6b⟩ := and_e g5b
  obtain ⟨w0, rfl⟩ : ∃ w0 : Value, args = #[w0] := by
    have hs : args.size = 1 := by simpa [Cond.value, given_1] using g1a
    obtain ⟨L⟩ := args
    match L, hs with
    | [w0], _ => exact ⟨w0, rfl⟩
  have hw := fun d (hd : d ∈ tables_1) => atoms_spec (ws := Jvm.Cond.code x code maxLocals ret :: tables_1) hat d (List.mem_cons_of_mem _ hd)
  have hfit : Fit s := fun {y c} hc i hi => by
    obtain ⟨ha, rfl⟩ := Array.getElem?_eq_some_iff.mp hc
    have q := List.all_eq_true.mp ((Array.all_eq_true_iff_forall_mem.mp hF) _ (Array.getElem_mem ha)) i (List.mem_range.mpr hi)
    simpa [Array.getElem?_eq_getElem hi] using q
  obtain ⟨vk, ei0⟩ := is_v g1b
  obtain rfl : w0 = (.int vk) := Option.some.inj ei0
  obtain ⟨a_READ, e_READ⟩ := exa_v g2a
  have S_READ : Sta s s.heap "com/example/weftlock/weftlock/Access" "READ" "Lcom/example/weftlock/weftlock/Access;" (.ref a_READ) := Sta.start e_READ (Or.inr ⟨(hw _ (List.mem_of_getElem? (i := 2) rfl)), (hw _ (List.mem_of_getElem? (i := 3) rfl))⟩)
  have E_READ : Exa s s.heap a_READ "com/example/weftlock/weftlock/Access" := Exa.start e_READ g2a
  obtain ⟨a_UPDATE, e_UPDATE⟩ := exa_v g3a
  have S_UPDATE : Sta s s.heap "com/example/weftlock/weftlock/Access" "UPDATE" "Lcom/example/weftlock/weftlock/Access;" (.ref a_UPDATE) := Sta.start e_UPDATE (Or.inr ⟨(hw _ (List.mem_of_getElem? (i := 2) rfl)), (hw _ (List.mem_of_getElem? (i := 11) rfl))⟩)
  have E_UPDATE : Exa s s.heap a_UPDATE "com/example/weftlock/weftlock/Access" := Exa.start e_UPDATE g3a
  obtain ⟨a_WRITE, e_WRITE⟩ := exa_v g6a
  have S_WRITE : Sta s s.heap "com/example/weftlock/weftlock/Access" "WRITE" "Lcom/example/weftlock/weftlock/Access;" (.ref a_WRITE) := Sta.start e_WRITE (Or.inr ⟨(hw _ (List.mem_of_getElem? (i := 2) rfl)), (hw _ (List.mem_of_getElem? (i := 13) rfl))⟩)
  have E_WRITE : Exa s s.heap a_WRITE "com/example/weftlock/weftlock/Access" := Exa.start e_WRITE g6a
  have o_UPDATE := own_ord e_UPDATE g4a
  have o_READ := own_ord e_READ g5a
  have o_WRITE := own_ord e_WRITE g6b
  obtain ⟨n, o, h1, h2, h3, _, L, rfl, ⟨rfl, N⟩, hq⟩ := rm0 l s _ hw tables_1 vk a_READ a_WRITE a_UPDATE s.heap s.heap.size (Nat.le_refl _) S_READ S_WRITE S_UPDATE E_READ E_WRITE E_UPDATE (own_ord_ne o_WRITE o_READ (by decide)) (own_ord_ne o_UPDATE o_READ (by decide)) p e ha hc hk s m _ below hf ((Spec.applies_iff_loose hf).mp happ).1 ⟨rfl, State.Warmed39.refl s, rfl⟩ trivial
  refine ⟨n, _, h1, h2, h3, hpost _ _ _ _ _ _ ⟨Cond.after_iff.mpr rfl, Cond.after_iff.mpr (eq_i res_at (Term.int_eval (1)) rfl), trivial⟩ ⟨hq.1, hq.2.1, (hq.2.2.sift fun y hy => Or.inr (N y hy)).mono (by decide) (by decide)⟩⟩
theorem main_1_1 : Claimed_1_1 := comes_1 fun _ _ _ _ _ _ h hF => ⟨h.1, hF⟩
theorem main_1_2 : Claimed_1_2 := comes_1 fun _ _ _ _ _ _ h hF => ⟨h.2.1, hF⟩
end Jvm.Pilot.@@N@@
namespace Jvm.Pilot.@@N@@
open Jvm Jvm.ClassFile Sem Op Lib Jvm.Free Jvm.Stand Jvm.Pilot.@@N@@.Jvm.D
/-! MADE BY PROGRAM (witnessworld.py) out of the Statement's table words and the real class files: 12 classes; the members and pool entries that the words name. The judged class is class 1, her method 1. -/
namespace start1
open Jvm.ClassFile
def u (s : String) : CpInfo := .utf8 (stringToUtf16 s)
/-- a pool by its gaps: so many unusable entries, then the entry; so many at the end -/
def gap : Nat → List CpInfo → List CpInfo
  | 0, r => r
  | n + 1, r => .unusable :: gap n r
def poolList (es : List (Nat × CpInfo)) (last : Nat) : List CpInfo := es.foldr (fun e r => gap e.1 (e.2 :: r)) (gap last [])
def pool (es : List (Nat × CpInfo)) (last : Nat) : Array CpInfo := ⟨poolList es last⟩
def fileOf (pool : Array CpInfo) (this : Nat) (attrs : Array Attribute := #[]) (ms : Array MethodInfo := #[]) (fl : Nat := 33) (sup : Nat := 0) (ifs : Array Nat := #[]) (fds : Array FieldInfo := #[]) : ClassFile where
  minorVersion := 0
  majorVersion := 65
  constantPool := pool
  accessFlags := fl
  thisClass := this
  superClass := sup
  interfaces := ifs
  fields := fds
  methods := ms
  attributes := attrs
def plain (name : String) (sup : Option ClassId) : Class where
  name := name
  kind := .ordinary
  loader := none
  accessFlags := 33
  super := sup
  interfaces := #[]
  cf := none
  fields := #[]
  methods := #[]
  instanceTypes := #[]
  staticTypes := #[]
  resolved := #[]
  callSites := []
  init := .initialized
  statics := none
  mirror := none

def pool0 : Array CpInfo := pool [(5, u "<init>"), (0, u "()V"), (1, .class_ 10), (1, u "java/lang/Object")] 113

def k0m0 : Method := { name := "<init>", desc := "()V", sig := { parameters := [], returnType := none }, accessFlags := 1, code := none }
/-- java/lang/Object -/
def k0 : Class := { plain "java/lang/Object" none with
  accessFlags := 33
  interfaces := #[]
  cf := some (fileOf pool0 8 #[] #[{ accessFlags := 1, nameIndex := 5, descriptorIndex := 6, attributes := #[] }] 33 0 #[] #[])
  fields := #[]
  methods := #[k0m0]
  instanceTypes := #[]
  staticTypes := #[]
  resolved := Array.replicate 124 none
  statics := none }

def pool1 : Array CpInfo := pool [(2, .class_ 4), (1, u "java/lang/Object"), (0, u "<init>"), (0, u "()V"), (0, .integer 2147483647), (0, .fieldref 9 10), (0, .class_ 11), (0, .nameAndType 12 13), (0, u "com/example/weftlock/weftlock/Access"), (0, u "READ"), (0, u "Lcom/example/weftlock/weftlock/Access;"), (0, .fieldref 9 15), (0, .nameAndType 16 13), (0, u "WRITE"), (0, .fieldref 9 18), (0, .nameAndType 19 13), (0, u "UPDATE"), (0, .methodref 9 21), (0, .nameAndType 22 23), (0, u "changes"), (0, u "()Z"), (0, .class_ 25), (0, u "com/example/weftlock/weftlock/AccessChangesPinLaw"), (2, u "law"), (0, u "(I)Z")] 3

def k1m0 : Method := { name := "<init>", desc := "()V", sig := { parameters := [], returnType := none }, accessFlags := 1, code := none }
def k1c1 : Code := { maxStack := 2, maxLocals := 4, code := code, exceptionTable := #[], attributes := #[] }
def k1m1 : Method := { name := "law", desc := "(I)Z", sig := { parameters := [.int], returnType := some .boolean }, accessFlags := 9, code := some k1c1 }
/-- com/example/weftlock/weftlock/AccessChangesPinLaw -/
def k1 : Class := { plain "com/example/weftlock/weftlock/AccessChangesPinLaw" (some 0) with
  accessFlags := 49
  interfaces := #[]
  cf := some (fileOf pool1 24 #[] #[{ accessFlags := 1, nameIndex := 5, descriptorIndex := 6, attributes := #[] }, { accessFlags := 9, nameIndex := 28, descriptorIndex := 29, attributes := #[] }] 49 2 #[] #[])
  fields := #[]
  methods := #[k1m0, k1m1]
  instanceTypes := #[]
  staticTypes := #[]
  resolved := Array.replicate 33 none
  statics := none }

def pool2 : Array CpInfo := pool [(1, .class_ 2), (0, u "java/lang/constant/Constable"), (0, .class_ 4), (0, u "java/lang/Object")] 6

/-- java/lang/constant/Constable -/
def k2 : Class := { plain "java/lang/constant/Constable" (some 0) with
  accessFlags := 1537
  interfaces := #[]
  cf := some (fileOf pool2 1 #[] #[] 1537 3 #[] #[])
  fields := #[]
  methods := #[]
  instanceTypes := #[]
  staticTypes := #[]
  resolved := Array.replicate 11 none
  statics := none }

def pool3 : Array CpInfo := pool [(1, .class_ 2), (0, u "java/lang/Comparable"), (0, .class_ 4), (0, u "java/lang/Object")] 7

/-- java/lang/Comparable -/
def k3 : Class := { plain "java/lang/Comparable" (some 0) with
  accessFlags := 1537
  interfaces := #[]
  cf := some (fileOf pool3 1 #[] #[] 1537 3 #[] #[])
  fields := #[]
  methods := #[]
  instanceTypes := #[]
  staticTypes := #[]
  resolved := Array.replicate 12 none
  statics := none }

def pool4 : Array CpInfo := pool [(1, .class_ 2), (0, u "java/io/Serializable"), (0, .class_ 4), (0, u "java/lang/Object")] 2

/-- java/io/Serializable -/
def k4 : Class := { plain "java/io/Serializable" (some 0) with
  accessFlags := 1537
  interfaces := #[]
  cf := some (fileOf pool4 1 #[] #[] 1537 3 #[] #[])
  fields := #[]
  methods := #[]
  instanceTypes := #[]
  staticTypes := #[]
  resolved := Array.replicate 7 none
  statics := none }

def pool5 : Array CpInfo := pool [(2, .class_ 4), (1, u "java/lang/Enum"), (0, u "name"), (0, u "Ljava/lang/String;"), (2, u "ordinal"), (0, u "I"), (1, .class_ 14), (1, u "java/lang/Object"), (4, u "hash"), (86, .class_ 108), (1, u "java/lang/Enum$EnumDesc"), (2, .class_ 112), (0, u "java/lang/constant/Constable"), (0, .class_ 114), (0, u "java/lang/Comparable"), (0, .class_ 116), (0, u "java/io/Serializable")] 87

/-- java/lang/Enum -/
def k5 : Class := { plain "java/lang/Enum" (some 0) with
  accessFlags := 1057
  interfaces := #[2, 3, 4]
  cf := some (fileOf pool5 2 #[.nestMembers #[106]] #[] 1057 12 #[111, 113, 115] #[{ accessFlags := 18, nameIndex := 5, descriptorIndex := 6, attributes := #[] }, { accessFlags := 18, nameIndex := 9, descriptorIndex := 10, attributes := #[] }, { accessFlags := 2, nameIndex := 19, descriptorIndex := 10, attributes := #[] }])
  fields := #[{ name := "name", type := (.object "java/lang/String"), accessFlags := 18, slot := 0, constantValue := 0 }, { name := "ordinal", type := .int, accessFlags := 18, slot := 1, constantValue := 0 }, { name := "hash", type := .int, accessFlags := 2, slot := 2, constantValue := 0 }]
  methods := #[]
  instanceTypes := #[(.object "java/lang/String"), .int, .int]
  staticTypes := #[]
  resolved := Array.replicate 204 none
  statics := none }

def pool6 : Array CpInfo := pool [(1, .class_ 2), (0, u "com/example/weftlock/weftlock/Access"), (0, .fieldref 1 4), (0, .nameAndType 5 6), (0, u "READ"), (0, u "Lcom/example/weftlock/weftlock/Access;"), (2, u "WRITE"), (2, u "UPDATE"), (2, u "$VALUES"), (0, u "[Lcom/example/weftlock/weftlock/Access;"), (6, .class_ 25), (1, u "java/lang/Enum"), (8, u "mark"), (0, u "Ljava/lang/Class;"), (62, u "changes"), (0, u "()Z")] 25

def k6c0 : Code := { maxStack := 2, maxLocals := 1, code := prog_1_method_5_code, exceptionTable := #[], attributes := #[] }
def k6m0 : Method := { name := "changes", desc := "()Z", sig := { parameters := [], returnType := some .boolean }, accessFlags := 0, code := some k6c0 }
/-- com/example/weftlock/weftlock/Access -/
def k6 : Class := { plain "com/example/weftlock/weftlock/Access" (some 5) with
  accessFlags := 16432
  interfaces := #[]
  cf := some (fileOf pool6 1 #[] #[{ accessFlags := 0, nameIndex := 98, descriptorIndex := 99, attributes := #[] }] 16432 23 #[] #[{ accessFlags := 16409, nameIndex := 5, descriptorIndex := 6, attributes := #[] }, { accessFlags := 16409, nameIndex := 9, descriptorIndex := 6, attributes := #[] }, { accessFlags := 16409, nameIndex := 12, descriptorIndex := 6, attributes := #[] }, { accessFlags := 18, nameIndex := 34, descriptorIndex := 35, attributes := #[] }, { accessFlags := 4122, nameIndex := 15, descriptorIndex := 16, attributes := #[] }])
  fields := #[{ name := "READ", type := (.object "com/example/weftlock/weftlock/Access"), accessFlags := 16409, slot := 0, constantValue := 0 }, { name := "WRITE", type := (.object "com/example/weftlock/weftlock/Access"), accessFlags := 16409, slot := 1, constantValue := 0 }, { name := "UPDATE", type := (.object "com/example/weftlock/weftlock/Access"), accessFlags := 16409, slot := 2, constantValue := 0 }, { name := "mark", type := (.object "java/lang/Class"), accessFlags := 18, slot := 3, constantValue := 0 }, { name := "$VALUES", type := (.array (.object "com/example/weftlock/weftlock/Access")), accessFlags := 4122, slot := 3, constantValue := 0 }]
  methods := #[k6m0]
  instanceTypes := #[(.object "java/lang/String"), .int, .int, (.object "java/lang/Class")]
  staticTypes := #[(.object "com/example/weftlock/weftlock/Access"), (.object "com/example/weftlock/weftlock/Access"), (.object "com/example/weftlock/weftlock/Access"), (.array (.object "com/example/weftlock/weftlock/Access"))]
  resolved := Array.replicate 125 none
  statics := some 0 }

def pool7 : Array CpInfo := pool [(1, u "java/lang/Cloneable"), (0, .class_ 1), (0, u "java/lang/Object"), (0, .class_ 3)] 3

/-- java/lang/Cloneable -/
def k7 : Class := { plain "java/lang/Cloneable" (some 0) with
  accessFlags := 1537
  interfaces := #[]
  cf := some (fileOf pool7 2 #[] #[] 1537 4 #[] #[])
  fields := #[]
  methods := #[]
  instanceTypes := #[]
  staticTypes := #[]
  resolved := Array.replicate 8 none
  statics := none }

/-- the primitive byte -/
def k8 : Class := { plain "byte" none with kind := .primitive 'B', accessFlags := 0x411 }
/-- [B -/
def k9 : Class := { plain "[B" (some 0) with kind := .array 8 .byte, interfaces := #[7, 4], accessFlags := 1041 }

/-- the primitive int -/
def k10 : Class := { plain "int" none with kind := .primitive 'I', accessFlags := 0x411 }
/-- [I -/
def k11 : Class := { plain "[I" (some 0) with kind := .array 10 .int, interfaces := #[7, 4], accessFlags := 1041 }

def heap : Heap := #[{ cls := 6, slots := #[.ref 1, .ref 2, .ref 3, .null], vm := .statics 6 },
  { cls := 6, slots := #[.null, .int 0, .int 0, .null], vm := .none },
  { cls := 6, slots := #[.null, .int 1, .int 0, .null], vm := .none },
  { cls := 6, slots := #[.null, .int 2, .int 0, .null], vm := .none }]
def classes : Array Class := #[k0, k1, k2, k3, k4, k5, k6, k7, k8, k9, k10, k11]
def interned : List (Array UInt16 × Addr) := []
def slotsUsed : Nat := 16
def theMethod : MethodId := ⟨1, 1⟩
def args0 : Array Value := #[.int 5]
def aboutOver (below : List Frame) : State where
  vm := { classes := classes, interned := interned.toArray }
  heap := heap
  slotsUsed := slotsUsed
  threads := #[{ frames := .invoking theMethod args0 :: below }]
def below0 : List Frame := [.native { method := ⟨0, 0⟩, args := #[] }]
def about1 : State := aboutOver below0
def p0 : Program := .bare "" "" ""
def e0 : Env := launch0.env 0 0 0
theorem w_frames : about1.frames = Frame.invoking theMethod args0 :: below0 := rfl
set_option maxRecDepth 65536 in
theorem w_args : argsFit about1.vm theMethod args0 = true := by decide +kernel
set_option maxRecDepth 65536 in
theorem w_heap : heapFits about1 = true := by decide +kernel
set_option maxRecDepth 65536 in
theorem w_runnable : about1.curStatus? = some .runnable := by decide +kernel
set_option maxRecDepth 65536 in
theorem w_alone : about1.alone = true := by decide +kernel
set_option maxRecDepth 65536 in
theorem w_named : about1.methodNamed? x = some theMethod := by decide +kernel
set_option maxRecDepth 65536 in
theorem w_hears : about1.hears theMethod below0 = true := by decide +kernel
set_option maxRecDepth 65536 in
theorem w_ripe : about1.ripe theMethod args0 below0 = true := by decide +kernel
theorem w_running : about1.status = .running := rfl
set_option maxRecDepth 65536 in
theorem w_room : about1.hasRoom e0.platform room_1 = true :=
  launch0.hasRoom_least _ room_1 (by decide +kernel) (by decide +kernel) (by decide +kernel) (by decide +kernel) (by decide +kernel) (by decide +kernel)
theorem allAtoms_all (ts : List Jvm.Cond) (a : Array Jvm.Value) (st : Jvm.State) : (allAtoms ts).before a st = ts.all (fun c => c.before a st) := by
  induction ts with
  | nil => rfl
  | cons c t ih =>
    show (Jvm.Cond.and c (allAtoms t)).before a st = _
    rw [Jvm.Cond.before_and, ih, List.all_cons]
def words1 : List Jvm.Cond := Jvm.Cond.code x code maxLocals ret :: tables_1
/-- a 'code' word, met by the world's own term for the bytes: nothing is compared byte by byte -/
theorem code_word {y : MethodName} {bytes : ByteArray} {mx : Nat} {rt : Option FieldType} {a : Array Value} {s : State} {m : MethodId} {meth : Method} {c : Code} (h1 : s.methodNamed? y = some m) (h2 : s.vm.method? m = some meth) (h3 : meth.code = some c) (h4 : c.code = bytes)
    (h5 : (c.maxLocals == mx && c.exceptionTable.isEmpty && decide (c.maxStack ≤ mostOperands) && decide (meth.sig.returnType = rt) && !meth.locks && decide (parseMethodDescriptor y.desc = some meth.sig)) = true) : (Jvm.Cond.code y bytes mx rt).before a s = true := by
  simp only [Bool.and_eq_true, beq_iff_eq, Bool.not_eq_true', decide_eq_true_eq] at h5
  obtain ⟨⟨⟨⟨⟨g1, g2⟩, g3⟩, g4⟩, g5⟩, g6⟩ := h5
  simp [Cond.before, Cond.holds, Cond.value, h1, h2, h3, h4, g1, g2, g3, g4, g5, g6]
def isCode : Jvm.Cond → Bool
  | .code _ _ _ _ => true
  | _ => false
theorem all_split {L : List Jvm.Cond} {P : Jvm.Cond → Bool} (h1 : L.all (fun c => isCode c || P c) = true) (h2 : ∀ c ∈ L.filter isCode, P c = true) : L.all P = true := by
  refine List.all_eq_true.mpr fun c hc => ?_
  have h := List.all_eq_true.mp h1 c hc
  rcases Bool.eq_false_or_eq_true (isCode c) with hi | hi
  · exact h2 c (List.mem_filter.mpr ⟨hc, hi⟩)
  · simpa [hi] using h
set_option maxRecDepth 65536 in
theorem w_c0 : (Jvm.Cond.code x code maxLocals ret).before args0 about1 = true := code_word (m := ⟨1, 1⟩) (meth := k1m1) (c := k1c1) (by decide +kernel) rfl rfl rfl (by decide +kernel)
set_option maxRecDepth 65536 in
theorem w_c1 : (Jvm.Cond.code ({ cls := "com/example/weftlock/weftlock/Access", name := "changes", desc := "()Z" } : Jvm.MethodName) prog_1_method_5_code (1 : Nat) (Option.some Jvm.ClassFile.FieldType.boolean)).before args0 about1 = true := code_word (m := ⟨6, 0⟩) (meth := k6m0) (c := k6c0) (by decide +kernel) rfl rfl rfl (by decide +kernel)
def codes1 : List Jvm.Cond := [Jvm.Cond.code x code maxLocals ret, Jvm.Cond.code ({ cls := "com/example/weftlock/weftlock/Access", name := "changes", desc := "()Z" } : Jvm.MethodName) prog_1_method_5_code (1 : Nat) (Option.some Jvm.ClassFile.FieldType.boolean)]
set_option maxRecDepth 65536 in
theorem codes_eq : words1.filter isCode = codes1 := rfl
theorem w_codes : ∀ c ∈ words1.filter isCode, c.before args0 about1 = true := by
  rw [codes_eq]
  intro c hc
  simp only [codes1, List.mem_cons, List.not_mem_nil, or_false] at hc
  rcases hc with rfl | rfl
  · exact w_c0
  · exact w_c1
set_option maxRecDepth 65536 in
theorem w_t1 : words1.all (fun c => isCode c || c.before args0 about1) = true := by decide +kernel
theorem w_tables : (allAtoms (Jvm.Cond.code x code maxLocals ret :: tables_1)).before args0 about1 = true := by
  rw [allAtoms_all]
  show words1.all (fun c => c.before args0 about1) = true
  refine all_split ?_ w_codes
  rw [w_t1]
set_option maxRecDepth 65536 in
theorem w_case : (Jvm.Cond.and given_1 narrow_1).before args0 about1 = true := by decide +kernel
theorem w_applies : (headSpec (Jvm.Cond.code x code maxLocals ret :: tables_1) room_1).applies x e0.platform about1 = true :=
  (Spec.applies_iff w_frames).mpr ⟨w_running, w_runnable, w_alone, w_named, w_hears, w_ripe, w_room, w_tables⟩
theorem atStart : AtStart classFile x code maxLocals ret World_1 tables_1 room_1 Calls_1 rest_1 Pre_1 launch0 p0 e0 about1 theMethod args0 below0 :=
  ⟨lists_1, trivial, launch0.admits_env _ _ _, launch0.least_env, fairChoices_fair.cas, fairChoices_fair.clock, w_frames, w_args, w_heap, w_applies, trivial, trivial, w_case⟩
end start1
theorem witness_1 : WitnessClaimed_1 := ⟨start1.p0, start1.e0, start1.about1, start1.theMethod, start1.args0, start1.below0, start1.atStart⟩
end Jvm.Pilot.@@N@@
