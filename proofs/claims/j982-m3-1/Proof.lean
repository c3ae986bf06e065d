import JvmDerived
import JvmDerived.Pilot.@@N@@Statement
import JvmDerived.Pilot.@@N@@Code
set_option linter.unusedVariables false
set_option linter.unusedSimpArgs false
namespace Jvm.Pilot.@@N@@
open Jvm Jvm.ClassFile Sem Op Lib Jvm.Free Jvm.Stand Jvm.LawKit Jvm.RoadKit Bundle Jvm.Pilot.@@N@@.Jvm.D
theorem d3_0 : decode prog_31_method_1_code 0 = .ok (.aload_n 0, 1) := by decide +kernel
theorem d3_1 : decode prog_31_method_1_code 1 = .ok (.invokespecial 3, 3) := by decide +kernel
theorem d3_4 : decode prog_31_method_1_code 4 = .ok (.aload_n 0, 1) := by decide +kernel
theorem d3_5 : decode prog_31_method_1_code 5 = .ok (.iconst 0, 1) := by decide +kernel
theorem d3_6 : decode prog_31_method_1_code 6 = .ok (.newarray .long, 2) := by decide +kernel
theorem d3_8 : decode prog_31_method_1_code 8 = .ok (.putfield 9, 3) := by decide +kernel
theorem d3_11 : decode prog_31_method_1_code 11 = .ok (.return_, 1) := by decide +kernel
theorem pn_7 : plainName "com/example/weftlock/weftlock/DurationHistogram" = true := by first | (simp [plainName, overriddenIn]; done) | decide +kernel
theorem ef_rm3 (m : MethodId) (x0 : Addr) : entryFrame m #[(.ref x0)] 1 = mkF m 0 #[.val (.ref x0)] [] := by first | (simp [entryFrame, mkF, argsToLocals, Value.category]; done) | rfl
def Q3 (Z : State) (vb : Addr) (h0 : Heap) (n0 : Nat) (v : Option Value) (h : Heap) (L : List Loc) : Prop := v = none ∧ Fr n0 L ∧ Keep h0 h [vb] ∧ Exa Z h vb "com/example/weftlock/weftlock/DurationHistogram" ∧ Fld Z h vb "com/example/weftlock/weftlock/DurationHistogram" "count" "J" (.long (0 : Int64))
set_option maxRecDepth 65536 in
set_option maxHeartbeats 40000000 in
theorem rm3 (l : Launch) (Z : State) (a0 : Array Value) (hw : ∀ d ∈ tables_1, d.before a0 Z = true) (ws : List Jvm.Cond) (vb : Addr) (h0 : Heap) (n0 : Nat) (Z0 : n0 ≤ h0.size) (Eb : Exa Z h0 vb "com/example/weftlock/weftlock/DurationHistogram") (Fcount : Fld Z h0 vb "com/example/weftlock/weftlock/DurationHistogram" "count" "J" (.long (0 : Int64))) (Fcounts : Fld Z h0 vb "com/example/weftlock/weftlock/DurationHistogram" "counts" "[J" .null) (g_vb : n0 ≤ vb) :
    MetFree l (⟨"com/example/weftlock/weftlock/DurationHistogram", "<init>", "()V"⟩ : MethodName) (head1 (Jvm.Cond.code (⟨"com/example/weftlock/weftlock/DurationHistogram", "<init>", "()V"⟩ : MethodName) prog_31_method_1_code 1 none :: ws) ({ frames := 1, cells := 1, slots := 0, locals := 12 } : Room)) (fun a U => a = #[(.ref vb)] ∧ Z.Warmed39 U.vm ∧ U.heap = h0) (fun _ _ _ _ _ => True) (fun _ U o U' => ∃ v L, o = .returned v ∧ Q3 Z vb h0 n0 v U'.heap L ∧ FrameEnd U o U' L ({ frames := 1, cells := 1, slots := 0, locals := 12 } : Room).cells ({ frames := 1, cells := 1, slots := 0, locals := 12 } : Room).slots) := by
  refine MetFree.of_bodySF (plainFor_of_name pn_7) hisR ?_
  intro p e s m args below meth c s₁ Bd hml0 hP hK
  obtain ⟨rfl, hZ, hh⟩ := hP
  have hx := Bd.exec
  have hby := Bd.bytes
  have hml : c.maxLocals = 1 := hml0
  have hown : s.vm.findClass "com/example/weftlock/weftlock/DurationHistogram" = some m.cls := findClass_of_methodNamed Bd.named
  have hnm := (name_of_methodNamed Bd.named Bd.method).1
  have X0 : Stand p l e ({ frames := 1, cells := 1, slots := 0, locals := 12 } : Room) s m #[(.ref vb)] below meth c s₁ [] 0 0 := Stand.of_body Bd
  have e0 : s₁.heap = h0 := by rw [← hh, Bd.state]; rfl
  have N0 := Fr.nil n0
  have pre0 : ∀ t, Steps p.tables e below (s₁.setTop (mkF m 0 #[.val (.ref vb)] [])) t → Steps p.tables e below (s₁.setTop (entryFrame m #[(.ref vb)] 1)) t := fun t k => castTop (ef_rm3 m vb) k
  obtain ⟨T1, X1, e1, st1⟩ := initO X0 hx hZ hown (hw _ (List.mem_of_getElem? (i := 15) rfl)) (hw _ (List.mem_of_getElem? (i := 7) rfl)) (hw _ (List.mem_of_getElem? (i := 8) rfl)) e0 (g := (mkF m 1 #[.val (.ref vb)] [(.ref vb)])) rfl (by rw [hml]; rfl) rfl (hb hby d3_1) (by decide) (W := 0) (by show 2 * 0 + _ ≤ _; exact Nat.le_of_eq rfl) (by decide)
  obtain ⟨T2, h2, k2, X2, e2, E2, A2, st2⟩ := newP X1 hx hZ (hw _ (List.mem_of_getElem? (i := 16) rfl)) e1 (g := (mkF m 6 #[.val (.ref vb)] [(.int (0 : Int32)), (.ref vb)])) rfl (hb hby d3_6) rfl (by decide) (cap := 0) (by decide) (by decide) (by decide) (by decide)
  obtain ⟨b2, g2⟩ : ∃ z, z = h0.size := ⟨_, rfl⟩
  rw [← g2] at A2 st2
  have ne3 : vb ≠ b2 := Nat.ne_of_lt (Nat.lt_of_lt_of_le Eb.lt (Nat.le_of_eq g2.symm))
  have c4 : Exa Z h2 vb "com/example/weftlock/weftlock/DurationHistogram" := Eb.ext E2
  have c5 : Fld Z h2 vb "com/example/weftlock/weftlock/DurationHistogram" "count" "J" (.long (0 : Int64)) := Fcount.ext E2
  have c6 : Fld Z h2 vb "com/example/weftlock/weftlock/DurationHistogram" "counts" "[J" .null := Fcounts.ext E2
  have g_b2 : n0 ≤ b2 := Nat.le_trans Z0 (Nat.le_of_eq g2.symm)
  have sz_b2 : h0.size ≤ b2 := Nat.le_trans (Keep.refl h0 [vb]).1 (Nat.le_of_eq g2.symm)
  have Z2 : n0 ≤ h2.size := Nat.le_trans Z0 E2.1
  have K2 : Keep h0 h2 [vb] := (Keep.refl h0 [vb]).ext E2
  have V2 : Arv Z h2 b2 k2 .long (0 : Int32) [] (.long (0 : Int64)) := Arv.new A2 (by decide)
  obtain ⟨T7, h7, X7, e7, W7, st7⟩ := putF X2 hx hZ hown (host := "") (Or.inl (hw _ (List.mem_of_getElem? (i := 17) rfl))) Via.refl e2 c6 c4 (Or.inl (hw _ (List.mem_of_getElem? (i := 18) rfl))) (hw _ (List.mem_of_getElem? (i := 10) rfl)) (ty := (.array .long)) (by decide) rfl rfl (g := (mkF m 8 #[.val (.ref vb)] [(.ref b2), (.ref vb)])) rfl rfl (hb hby d3_8)
  have Fw7 : Fld Z h7 vb "com/example/weftlock/weftlock/DurationHistogram" "counts" "[J" (.ref b2) := c6.same W7
  have c8 : Exa Z h7 vb "com/example/weftlock/weftlock/DurationHistogram" := c4.wr W7
  have c9 : Fld Z h7 vb "com/example/weftlock/weftlock/DurationHistogram" "count" "J" (.long (0 : Int64)) := c5.other W7 (Or.inr (slot_ne (Or.inl (hw _ (List.mem_of_getElem? (i := 41) rfl))) (Or.inl (hw _ (List.mem_of_getElem? (i := 18) rfl))) (by decide) (t := .long) (t' := (.array .long)) (by decide) (by decide)))
  have c10 : Arv Z h7 b2 k2 .long (0 : Int32) [] (.long (0 : Int64)) := V2.other W7 (Ne.symm ne3)
  have Z7 : n0 ≤ h7.size := Nat.le_trans Z2 (Keep.of_wr W7).1
  have N7 := Fr.snoc X7 N0 g_vb
  have K7 : Keep h0 h7 [vb] := K2.wr W7 (Or.inl (List.mem_of_getElem? (i := 0) rfl))
  obtain ⟨fs, hr, hrun, hended, hW, hsame⟩ := X7.leave (v := none) (fun _ => rfl)
  refine ⟨_, _, pre0 _ ?_, hrun, hended, _, _, rfl, ?_, ⟨_, rfl⟩, hW, hsame.mono (by decide) (by decide)⟩
  ·
    show Steps p.tables e below (s₁.setTop (mkF m 0 #[.val (.ref vb)] [])) _
    refine XS.aloadN X0.here hx rfl (hb hby d3_0) rfl rfl ?_
    show Steps p.tables e below (s₁.setTop (mkF m 1 #[.val (.ref vb)] [(.ref vb)])) _
    refine st1 _ ?_
    show Steps p.tables e below (T1.setTop (mkF m 4 #[.val (.ref vb)] [])) _
    refine XS.aloadN X1.here hx rfl (hb hby d3_4) rfl rfl ?_
    show Steps p.tables e below (T1.setTop (mkF m 5 #[.val (.ref vb)] [(.ref vb)])) _
    refine XS.iconst X1.here hx rfl (hb hby d3_5) ?_
    show Steps p.tables e below (T1.setTop (mkF m 6 #[.val (.ref vb)] [(.int (0 : Int32)), (.ref vb)])) _
    refine st2 _ ?_
    show Steps p.tables e below (T2.setTop (mkF m 8 #[.val (.ref vb)] [(.ref b2), (.ref vb)])) _
    refine st7 _ ?_
    show Steps p.tables e below (T7.setTop (mkF m 11 #[.val (.ref vb)] [])) _
    exact X7.returnOut hx Bd.returns (hb hby d3_11) hr
  ·
    show Q3 Z vb h0 n0 _ T7.heap _
    rw [e7]
    exact ⟨rfl, N7, K7, c8, c9⟩
theorem d1_0 : decode prog_83_method_1_code 0 = .ok (.aload_n 0, 1) := by decide +kernel
theorem d1_1 : decode prog_83_method_1_code 1 = .ok (.invokespecial 1, 3) := by decide +kernel
theorem d1_4 : decode prog_83_method_1_code 4 = .ok (.aload_n 0, 1) := by decide +kernel
theorem d1_5 : decode prog_83_method_1_code 5 = .ok (.new 7, 3) := by decide +kernel
theorem d1_8 : decode prog_83_method_1_code 8 = .ok (.dup, 1) := by decide +kernel
theorem pd_0 : parseMethodDescriptor "()V" = some ⟨[], none⟩ := by decide +kernel
theorem d1_9 : decode prog_83_method_1_code 9 = .ok (.invokespecial 9, 3) := by decide +kernel
theorem d1_12 : decode prog_83_method_1_code 12 = .ok (.putfield 10, 3) := by decide +kernel
theorem d1_15 : decode prog_83_method_1_code 15 = .ok (.return_, 1) := by decide +kernel
theorem pn_16 : plainName "com/example/weftlock/weftlock/Snapshots" = true := by first | (simp [plainName, overriddenIn]; done) | decide +kernel
theorem ef_rm1 (m : MethodId) (x0 : Addr) : entryFrame m #[(.ref x0)] 1 = mkF m 0 #[.val (.ref x0)] [] := by first | (simp [entryFrame, mkF, argsToLocals, Value.category]; done) | rfl
def Q1 (Z : State) (va : Addr) (h0 : Heap) (n0 : Nat) (v : Option Value) (h : Heap) (L : List Loc) : Prop := v = none ∧ Fr n0 L ∧ Keep h0 h [va] ∧ ∃ vb : Addr, h0.size ≤ vb ∧ vb ≠ va ∧ Exa Z h va "com/example/weftlock/weftlock/Snapshots" ∧ Fld Z h va "com/example/weftlock/weftlock/Snapshots" "durations" "Lcom/example/weftlock/weftlock/DurationHistogram;" (.ref vb) ∧ Fld Z h va "com/example/weftlock/weftlock/Snapshots" "attempts" "J" (.long (0 : Int64)) ∧ Fld Z h va "com/example/weftlock/weftlock/Snapshots" "wrong" "J" (.long (0 : Int64)) ∧ Exa Z h vb "com/example/weftlock/weftlock/DurationHistogram" ∧ Fld Z h vb "com/example/weftlock/weftlock/DurationHistogram" "count" "J" (.long (0 : Int64))
set_option maxRecDepth 65536 in
set_option maxHeartbeats 40000000 in
theorem rm1 (l : Launch) (Z : State) (a0 : Array Value) (hw : ∀ d ∈ tables_1, d.before a0 Z = true) (ws : List Jvm.Cond) (va : Addr) (h0 : Heap) (n0 : Nat) (Z0 : n0 ≤ h0.size) (Ea : Exa Z h0 va "com/example/weftlock/weftlock/Snapshots") (Fdur : Fld Z h0 va "com/example/weftlock/weftlock/Snapshots" "durations" "Lcom/example/weftlock/weftlock/DurationHistogram;" .null) (Fatt : Fld Z h0 va "com/example/weftlock/weftlock/Snapshots" "attempts" "J" (.long (0 : Int64))) (Fwr : Fld Z h0 va "com/example/weftlock/weftlock/Snapshots" "wrong" "J" (.long (0 : Int64))) (g_va : n0 ≤ va) :
    MetFree l (⟨"com/example/weftlock/weftlock/Snapshots", "<init>", "()V"⟩ : MethodName) (head1 (Jvm.Cond.code (⟨"com/example/weftlock/weftlock/Snapshots", "<init>", "()V"⟩ : MethodName) prog_83_method_1_code 1 none :: ws) ({ frames := 2, cells := 2, slots := 3, locals := 26 } : Room)) (fun a U => a = #[(.ref va)] ∧ Z.Warmed39 U.vm ∧ U.heap = h0) (fun _ _ _ _ _ => True) (fun _ U o U' => ∃ v L, o = .returned v ∧ Q1 Z va h0 n0 v U'.heap L ∧ FrameEnd U o U' L ({ frames := 2, cells := 2, slots := 3, locals := 26 } : Room).cells ({ frames := 2, cells := 2, slots := 3, locals := 26 } : Room).slots) := by
  refine MetFree.of_bodySF (plainFor_of_name pn_16) hisR ?_
  intro p e s m args below meth c s₁ Bd hml0 hP hK
  obtain ⟨rfl, hZ, hh⟩ := hP
  have hx := Bd.exec
  have hby := Bd.bytes
  have hml : c.maxLocals = 1 := hml0
  have hown : s.vm.findClass "com/example/weftlock/weftlock/Snapshots" = some m.cls := findClass_of_methodNamed Bd.named
  have hnm := (name_of_methodNamed Bd.named Bd.method).1
  have X0 : Stand p l e ({ frames := 2, cells := 2, slots := 3, locals := 26 } : Room) s m #[(.ref va)] below meth c s₁ [] 0 0 := Stand.of_body Bd
  have e0 : s₁.heap = h0 := by rw [← hh, Bd.state]; rfl
  have N0 := Fr.nil n0
  have pre0 : ∀ t, Steps p.tables e below (s₁.setTop (mkF m 0 #[.val (.ref va)] [])) t → Steps p.tables e below (s₁.setTop (entryFrame m #[(.ref va)] 1)) t := fun t k => castTop (ef_rm1 m va) k
  obtain ⟨T1, X1, e1, st1⟩ := initO X0 hx hZ hown (hw _ (List.mem_of_getElem? (i := 6) rfl)) (hw _ (List.mem_of_getElem? (i := 7) rfl)) (hw _ (List.mem_of_getElem? (i := 8) rfl)) e0 (g := (mkF m 1 #[.val (.ref va)] [(.ref va)])) rfl (by rw [hml]; rfl) rfl (hb hby d1_1) (by decide) (W := 0) (by show 2 * 0 + _ ≤ _; exact Nat.le_of_eq rfl) (by decide)
  obtain ⟨T2, h2, X2, e2, E2, A2, D2, -, st2⟩ := newO X1 hx hZ hown (hw _ (List.mem_of_getElem? (i := 9) rfl)) (hw _ (List.mem_of_getElem? (i := 10) rfl)) (hw _ (List.mem_of_getElem? (i := 11) rfl)) e1 (g := (mkF m 5 #[.val (.ref va)] [(.ref va)])) rfl (hb hby d1_5) (by decide) (by decide)
  obtain ⟨b2, g2⟩ : ∃ z, z = h0.size := ⟨_, rfl⟩
  rw [← g2] at A2 D2 st2
  have ne3 : va ≠ b2 := Nat.ne_of_lt (Nat.lt_of_lt_of_le Ea.lt (Nat.le_of_eq g2.symm))
  have c4 : Exa Z h2 va "com/example/weftlock/weftlock/Snapshots" := Ea.ext E2
  have c5 : Fld Z h2 va "com/example/weftlock/weftlock/Snapshots" "durations" "Lcom/example/weftlock/weftlock/DurationHistogram;" .null := Fdur.ext E2
  have c6 : Fld Z h2 va "com/example/weftlock/weftlock/Snapshots" "attempts" "J" (.long (0 : Int64)) := Fatt.ext E2
  have c7 : Fld Z h2 va "com/example/weftlock/weftlock/Snapshots" "wrong" "J" (.long (0 : Int64)) := Fwr.ext E2
  have g_b2 : n0 ≤ b2 := Nat.le_trans Z0 (Nat.le_of_eq g2.symm)
  have sz_b2 : h0.size ≤ b2 := Nat.le_trans (Keep.refl h0 [va]).1 (Nat.le_of_eq g2.symm)
  have Z2 : n0 ≤ h2.size := Nat.le_trans Z0 E2.1
  have K2 : Keep h0 h2 [va] := (Keep.refl h0 [va]).ext E2
  have F2_counts : Fld Z h2 b2 "com/example/weftlock/weftlock/DurationHistogram" "counts" "[J" .null := D2 (Or.inl (hw _ (List.mem_of_getElem? (i := 18) rfl))) (ty := (.array .long)) (by decide)
  have F2_count : Fld Z h2 b2 "com/example/weftlock/weftlock/DurationHistogram" "count" "J" (.long (0 : Int64)) := D2 (Or.inl (hw _ (List.mem_of_getElem? (i := 41) rfl))) (ty := .long) (by decide)
  obtain ⟨_, _, ⟨T8, L8, k8, n8⟩, -, X8, ⟨Lc8, hQ8, l8, y8, z8⟩, st8⟩ := X2.specialBack hx (y := (⟨"com/example/weftlock/weftlock/DurationHistogram", "<init>", "()V"⟩ : MethodName)) rfl hown (mvT hZ (hw _ (List.mem_of_getElem? (i := 12) rfl))) (mvT hZ (hw _ (List.mem_of_getElem? (i := 13) rfl))) (mvT hZ (hw _ (List.mem_of_getElem? (i := 14) rfl))) (by decide) (backOf (W := 2) (rm3 l Z a0 hw [] b2  h2 n0 Z2 A2 F2_count F2_counts g_b2) hZ (hw _ (List.mem_of_getElem? (i := 14) rfl)) (hw _ (List.mem_of_getElem? (i := 11) rfl)) (by decide) (by decide)) (g := (mkF m 9 #[.val (.ref va)] [(.ref b2), (.ref b2), (.ref va)])) rfl (by rw [hml]; rfl) (Steps.refl _) (a := b2) (argsL := []) (rest := [(.ref b2), (.ref va)]) (lenOf pd_0 rfl) rfl (by show 2 * 0 + _ ≤ _; exact Nat.le_of_eq rfl) (hb hby d1_9) (fun _ _ => ⟨rfl, e2, (by decide : 1 + 1 ≤ _), (by decide : 3 + 0 ≤ _)⟩)
  dsimp only [Pt.U, Pt.locs, Pt.cells, Pt.slots] at X8 l8 y8 z8 st8 hQ8
  subst l8 y8 z8
  obtain ⟨rfl, N8q, K8q, f8_0, f8_1⟩ := hQ8
  have N8 := Fr.app N0 N8q
  have Z8 : n0 ≤ T8.heap.size := Nat.le_trans Z2 K8q.1
  have c9 : Exa Z T8.heap va "com/example/weftlock/weftlock/Snapshots" := c4.keep K8q
  have c10 : Fld Z T8.heap va "com/example/weftlock/weftlock/Snapshots" "durations" "Lcom/example/weftlock/weftlock/DurationHistogram;" .null := c5.keep K8q (ninS ne3 nin0)
  have c11 : Fld Z T8.heap va "com/example/weftlock/weftlock/Snapshots" "attempts" "J" (.long (0 : Int64)) := c6.keep K8q (ninS ne3 nin0)
  have c12 : Fld Z T8.heap va "com/example/weftlock/weftlock/Snapshots" "wrong" "J" (.long (0 : Int64)) := c7.keep K8q (ninS ne3 nin0)
  have c13 : Exa Z T8.heap b2 "com/example/weftlock/weftlock/DurationHistogram" := A2.keep K8q
  have K8 : Keep h0 T8.heap [va] := K2.trans K8q (allS (Or.inr sz_b2) all0)
  obtain ⟨T14, h14, X14, e14, W14, st14⟩ := putF X8 hx hZ hown (host := "") (Or.inl (hw _ (List.mem_of_getElem? (i := 19) rfl))) Via.refl rfl c10 c9 (Or.inr ⟨(hw _ (List.mem_of_getElem? (i := 20) rfl)), rfl, hnm⟩) (hw _ (List.mem_of_getElem? (i := 1) rfl)) (ty := (.object "com/example/weftlock/weftlock/DurationHistogram")) (by decide) rfl rfl (g := (mkF m 12 #[.val (.ref va)] [(.ref b2), (.ref va)])) rfl rfl (hb hby d1_12)
  have Fw14 : Fld Z h14 va "com/example/weftlock/weftlock/Snapshots" "durations" "Lcom/example/weftlock/weftlock/DurationHistogram;" (.ref b2) := c10.same W14
  have c15 : Exa Z h14 va "com/example/weftlock/weftlock/Snapshots" := c9.wr W14
  have c16 : Fld Z h14 va "com/example/weftlock/weftlock/Snapshots" "attempts" "J" (.long (0 : Int64)) := c11.other W14 (Or.inr (slot_ne (Or.inl (hw _ (List.mem_of_getElem? (i := 27) rfl))) (Or.inr (hw _ (List.mem_of_getElem? (i := 20) rfl))) (by decide) (t := .long) (t' := (.object "com/example/weftlock/weftlock/DurationHistogram")) (by decide) (by decide)))
  have c17 : Fld Z h14 va "com/example/weftlock/weftlock/Snapshots" "wrong" "J" (.long (0 : Int64)) := c12.other W14 (Or.inr (slot_ne (Or.inl (hw _ (List.mem_of_getElem? (i := 34) rfl))) (Or.inr (hw _ (List.mem_of_getElem? (i := 20) rfl))) (by decide) (t := .long) (t' := (.object "com/example/weftlock/weftlock/DurationHistogram")) (by decide) (by decide)))
  have c18 : Exa Z h14 b2 "com/example/weftlock/weftlock/DurationHistogram" := f8_0.wr W14
  have c19 : Fld Z h14 b2 "com/example/weftlock/weftlock/DurationHistogram" "count" "J" (.long (0 : Int64)) := f8_1.other W14 (Or.inl (Ne.symm ne3))
  have Z14 : n0 ≤ h14.size := Nat.le_trans Z8 (Keep.of_wr W14).1
  have N14 := Fr.snoc X14 N8 g_va
  have K14 : Keep h0 h14 [va] := K8.wr W14 (Or.inl (List.mem_of_getElem? (i := 0) rfl))
  obtain ⟨fs, hr, hrun, hended, hW, hsame⟩ := X14.leave (v := none) (fun _ => rfl)
  refine ⟨_, _, pre0 _ ?_, hrun, hended, _, _, rfl, ?_, ⟨_, rfl⟩, hW, hsame.mono (by decide) (by decide)⟩
  ·
    show Steps p.tables e below (s₁.setTop (mkF m 0 #[.val (.ref va)] [])) _
    refine XS.aloadN X0.here hx rfl (hb hby d1_0) rfl rfl ?_
    show Steps p.tables e below (s₁.setTop (mkF m 1 #[.val (.ref va)] [(.ref va)])) _
    refine st1 _ ?_
    show Steps p.tables e below (T1.setTop (mkF m 4 #[.val (.ref va)] [])) _
    refine XS.aloadN X1.here hx rfl (hb hby d1_4) rfl rfl ?_
    show Steps p.tables e below (T1.setTop (mkF m 5 #[.val (.ref va)] [(.ref va)])) _
    refine st2 _ ?_
    show Steps p.tables e below (T2.setTop (mkF m 8 #[.val (.ref va)] [(.ref b2), (.ref va)])) _
    refine XS.dup X2.here hx rfl (hb hby d1_8) rfl rfl ?_
    show Steps p.tables e below (T2.setTop (mkF m 9 #[.val (.ref va)] [(.ref b2), (.ref b2), (.ref va)])) _
    refine st8.trans ?_
    show Steps p.tables e below (T8.setTop (mkF m 12 #[.val (.ref va)] [(.ref b2), (.ref va)])) _
    refine st14 _ ?_
    show Steps p.tables e below (T14.setTop (mkF m 15 #[.val (.ref va)] [])) _
    exact X14.returnOut hx Bd.returns (hb hby d1_15) hr
  ·
    show Q1 Z va h0 n0 _ T14.heap _
    rw [e14]
    exact ⟨rfl, N14, K14, b2, sz_b2, (Ne.symm ne3), c15, Fw14, c16, c17, c18, c19⟩
theorem d4_0 : decode prog_83_method_3_code 0 = .ok (.aload_n 0, 1) := by decide +kernel
theorem d4_1 : decode prog_83_method_3_code 1 = .ok (.dup, 1) := by decide +kernel
theorem d4_2 : decode prog_83_method_3_code 2 = .ok (.getfield 31, 3) := by decide +kernel
theorem d4_5 : decode prog_83_method_3_code 5 = .ok (.iload_n 1, 1) := by decide +kernel
theorem d4_6 : decode prog_83_method_3_code 6 = .ok (.i2l, 1) := by decide +kernel
theorem d4_7 : decode prog_83_method_3_code 7 = .ok (.ladd, 1) := by decide +kernel
theorem d4_8 : decode prog_83_method_3_code 8 = .ok (.putfield 31, 3) := by decide +kernel
theorem d4_11 : decode prog_83_method_3_code 11 = .ok (.return_, 1) := by decide +kernel
theorem ef_rm4 (m : MethodId) (x0 : Addr) (x1 : Int32) : entryFrame m #[(.ref x0), (.int x1)] 2 = mkF m 0 #[.val (.ref x0), .val (.int x1)] [] := by first | (simp [entryFrame, mkF, argsToLocals, Value.category]; done) | rfl
def Q4 (Z : State) (va : Addr) (vn : Int32) (vb : Addr) (vt : Int64) (h0 : Heap) (n0 : Nat) (v : Option Value) (h : Heap) (L : List Loc) : Prop := v = none ∧ Fr n0 L ∧ Keep h0 h [va] ∧ Exa Z h va "com/example/weftlock/weftlock/Snapshots" ∧ Fld Z h va "com/example/weftlock/weftlock/Snapshots" "durations" "Lcom/example/weftlock/weftlock/DurationHistogram;" (.ref vb) ∧ Fld Z h va "com/example/weftlock/weftlock/Snapshots" "attempts" "J" (.long (vt + (vn.toInt64))) ∧ Fld Z h va "com/example/weftlock/weftlock/Snapshots" "wrong" "J" (.long (0 : Int64))
set_option maxRecDepth 65536 in
set_option maxHeartbeats 40000000 in
theorem rm4 (l : Launch) (Z : State) (a0 : Array Value) (hw : ∀ d ∈ tables_1, d.before a0 Z = true) (ws : List Jvm.Cond) (va : Addr) (vn : Int32) (vb : Addr) (vt : Int64) (h0 : Heap) (n0 : Nat) (Z0 : n0 ≤ h0.size) (Ea : Exa Z h0 va "com/example/weftlock/weftlock/Snapshots") (Fdur : Fld Z h0 va "com/example/weftlock/weftlock/Snapshots" "durations" "Lcom/example/weftlock/weftlock/DurationHistogram;" (.ref vb)) (Fatt : Fld Z h0 va "com/example/weftlock/weftlock/Snapshots" "attempts" "J" (.long vt)) (Fwr : Fld Z h0 va "com/example/weftlock/weftlock/Snapshots" "wrong" "J" (.long (0 : Int64))) (g_va : n0 ≤ va) :
    MetFree l (⟨"com/example/weftlock/weftlock/Snapshots", "countAttempts", "(I)V"⟩ : MethodName) (head1 (Jvm.Cond.code (⟨"com/example/weftlock/weftlock/Snapshots", "countAttempts", "(I)V"⟩ : MethodName) prog_83_method_3_code 2 none :: ws) ({ frames := 0, cells := 0, slots := 0, locals := 0 } : Room)) (fun a U => a = #[(.ref va), (.int vn)] ∧ Z.Warmed39 U.vm ∧ U.heap = h0) (fun _ _ _ _ _ => True) (fun _ U o U' => ∃ v L, o = .returned v ∧ Q4 Z va vn vb vt h0 n0 v U'.heap L ∧ FrameEnd U o U' L ({ frames := 0, cells := 0, slots := 0, locals := 0 } : Room).cells ({ frames := 0, cells := 0, slots := 0, locals := 0 } : Room).slots) := by
  refine MetFree.of_bodySF (plainFor_of_name pn_16) hisR ?_
  intro p e s m args below meth c s₁ Bd hml0 hP hK
  obtain ⟨rfl, hZ, hh⟩ := hP
  have hx := Bd.exec
  have hby := Bd.bytes
  have hml : c.maxLocals = 2 := hml0
  have hown : s.vm.findClass "com/example/weftlock/weftlock/Snapshots" = some m.cls := findClass_of_methodNamed Bd.named
  have hnm := (name_of_methodNamed Bd.named Bd.method).1
  have X0 : Stand p l e ({ frames := 0, cells := 0, slots := 0, locals := 0 } : Room) s m #[(.ref va), (.int vn)] below meth c s₁ [] 0 0 := Stand.of_body Bd
  have e0 : s₁.heap = h0 := by rw [← hh, Bd.state]; rfl
  have N0 := Fr.nil n0
  have pre0 : ∀ t, Steps p.tables e below (s₁.setTop (mkF m 0 #[.val (.ref va), .val (.int vn)] [])) t → Steps p.tables e below (s₁.setTop (entryFrame m #[(.ref va), (.int vn)] 2)) t := fun t k => castTop (ef_rm4 m va vn) k
  obtain ⟨T1, X1, e1, st1⟩ := getF X0 hx hZ hown (host := "") (Or.inl (hw _ (List.mem_of_getElem? (i := 26) rfl))) Via.refl e0 Fatt (g := (mkF m 2 #[.val (.ref va), .val (.int vn)] [(.ref va), (.ref va)])) rfl rfl (hb hby d4_2)
  obtain ⟨T2, h2, X2, e2, W2, st2⟩ := putF X1 hx hZ hown (host := "") (Or.inl (hw _ (List.mem_of_getElem? (i := 26) rfl))) Via.refl e1 Fatt Ea (Or.inl (hw _ (List.mem_of_getElem? (i := 27) rfl))) (hw _ (List.mem_of_getElem? (i := 1) rfl)) (ty := .long) (by decide) rfl rfl (g := (mkF m 8 #[.val (.ref va), .val (.int vn)] [(.long (vt + (vn.toInt64))), (.ref va)])) rfl rfl (hb hby d4_8)
  have Fw2 : Fld Z h2 va "com/example/weftlock/weftlock/Snapshots" "attempts" "J" (.long (vt + (vn.toInt64))) := Fatt.same W2
  have c3 : Exa Z h2 va "com/example/weftlock/weftlock/Snapshots" := Ea.wr W2
  have c4 : Fld Z h2 va "com/example/weftlock/weftlock/Snapshots" "durations" "Lcom/example/weftlock/weftlock/DurationHistogram;" (.ref vb) := Fdur.other W2 (Or.inr (slot_ne (Or.inr (hw _ (List.mem_of_getElem? (i := 20) rfl))) (Or.inl (hw _ (List.mem_of_getElem? (i := 27) rfl))) (by decide) (t := (.object "com/example/weftlock/weftlock/DurationHistogram")) (t' := .long) (by decide) (by decide)))
  have c5 : Fld Z h2 va "com/example/weftlock/weftlock/Snapshots" "wrong" "J" (.long (0 : Int64)) := Fwr.other W2 (Or.inr (slot_ne (Or.inl (hw _ (List.mem_of_getElem? (i := 34) rfl))) (Or.inl (hw _ (List.mem_of_getElem? (i := 27) rfl))) (by decide) (t := .long) (t' := .long) (by decide) (by decide)))
  have Z2 : n0 ≤ h2.size := Nat.le_trans Z0 (Keep.of_wr W2).1
  have N2 := Fr.snoc X2 N0 g_va
  have K2 : Keep h0 h2 [va] := (Keep.refl h0 [va]).wr W2 (Or.inl (List.mem_of_getElem? (i := 0) rfl))
  obtain ⟨fs, hr, hrun, hended, hW, hsame⟩ := X2.leave (v := none) (fun _ => rfl)
  refine ⟨_, _, pre0 _ ?_, hrun, hended, _, _, rfl, ?_, ⟨_, rfl⟩, hW, hsame.mono (by decide) (by decide)⟩
  ·
    show Steps p.tables e below (s₁.setTop (mkF m 0 #[.val (.ref va), .val (.int vn)] [])) _
    refine XS.aloadN X0.here hx rfl (hb hby d4_0) rfl rfl ?_
    show Steps p.tables e below (s₁.setTop (mkF m 1 #[.val (.ref va), .val (.int vn)] [(.ref va)])) _
    refine XS.dup X0.here hx rfl (hb hby d4_1) rfl rfl ?_
    show Steps p.tables e below (s₁.setTop (mkF m 2 #[.val (.ref va), .val (.int vn)] [(.ref va), (.ref va)])) _
    refine st1 _ ?_
    show Steps p.tables e below (T1.setTop (mkF m 5 #[.val (.ref va), .val (.int vn)] [(.long vt), (.ref va)])) _
    refine XS.iloadN X1.here hx rfl (hb hby d4_5) rfl ?_
    show Steps p.tables e below (T1.setTop (mkF m 6 #[.val (.ref va), .val (.int vn)] [(.int vn), (.long vt), (.ref va)])) _
    refine XS.i2l X1.here hx rfl (hb hby d4_6) rfl ?_
    show Steps p.tables e below (T1.setTop (mkF m 7 #[.val (.ref va), .val (.int vn)] [(.long (vn.toInt64)), (.long vt), (.ref va)])) _
    refine XS.ladd X1.here hx rfl (hb hby d4_7) rfl ?_
    show Steps p.tables e below (T1.setTop (mkF m 8 #[.val (.ref va), .val (.int vn)] [(.long (vt + (vn.toInt64))), (.ref va)])) _
    refine st2 _ ?_
    show Steps p.tables e below (T2.setTop (mkF m 11 #[.val (.ref va), .val (.int vn)] [])) _
    exact X2.returnOut hx Bd.returns (hb hby d4_11) hr
  ·
    show Q4 Z va vn vb vt h0 n0 _ T2.heap _
    rw [e2]
    exact ⟨rfl, N2, K2, c3, c4, Fw2, c5⟩
theorem d6_0 : decode prog_31_method_3_code 0 = .ok (.aload_n 0, 1) := by decide +kernel
theorem d6_1 : decode prog_31_method_3_code 1 = .ok (.getfield 32, 3) := by decide +kernel
theorem d6_4 : decode prog_31_method_3_code 4 = .ok (.lreturn, 1) := by decide +kernel
theorem ef_rm6 (m : MethodId) (x0 : Addr) : entryFrame m #[(.ref x0)] 1 = mkF m 0 #[.val (.ref x0)] [] := by first | (simp [entryFrame, mkF, argsToLocals, Value.category]; done) | rfl
def Q6 (Z : State) (vb : Addr) (vx : Int64) (h0 : Heap) (n0 : Nat) (v : Option Value) (h : Heap) (L : List Loc) : Prop := v = some (.long vx) ∧ Fr n0 L ∧ h = h0
set_option maxRecDepth 65536 in
set_option maxHeartbeats 40000000 in
theorem rm6 (l : Launch) (Z : State) (a0 : Array Value) (hw : ∀ d ∈ tables_1, d.before a0 Z = true) (ws : List Jvm.Cond) (vb : Addr) (vx : Int64) (h0 : Heap) (n0 : Nat) (Z0 : n0 ≤ h0.size) (Fc : Fld Z h0 vb "com/example/weftlock/weftlock/DurationHistogram" "count" "J" (.long vx)) :
    MetFree l (⟨"com/example/weftlock/weftlock/DurationHistogram", "count", "()J"⟩ : MethodName) (head1 (Jvm.Cond.code (⟨"com/example/weftlock/weftlock/DurationHistogram", "count", "()J"⟩ : MethodName) prog_31_method_3_code 1 (some .long) :: ws) ({ frames := 0, cells := 0, slots := 0, locals := 0 } : Room)) (fun a U => a = #[(.ref vb)] ∧ Z.Warmed39 U.vm ∧ U.heap = h0) (fun _ _ _ _ _ => True) (fun _ U o U' => ∃ v L, o = .returned v ∧ Q6 Z vb vx h0 n0 v U'.heap L ∧ FrameEnd U o U' L ({ frames := 0, cells := 0, slots := 0, locals := 0 } : Room).cells ({ frames := 0, cells := 0, slots := 0, locals := 0 } : Room).slots) := by
  refine MetFree.of_bodySF (plainFor_of_name pn_7) hisR ?_
  intro p e s m args below meth c s₁ Bd hml0 hP hK
  obtain ⟨rfl, hZ, hh⟩ := hP
  have hx := Bd.exec
  have hby := Bd.bytes
  have hml : c.maxLocals = 1 := hml0
  have hown : s.vm.findClass "com/example/weftlock/weftlock/DurationHistogram" = some m.cls := findClass_of_methodNamed Bd.named
  have hnm := (name_of_methodNamed Bd.named Bd.method).1
  have X0 : Stand p l e ({ frames := 0, cells := 0, slots := 0, locals := 0 } : Room) s m #[(.ref vb)] below meth c s₁ [] 0 0 := Stand.of_body Bd
  have e0 : s₁.heap = h0 := by rw [← hh, Bd.state]; rfl
  have N0 := Fr.nil n0
  have pre0 : ∀ t, Steps p.tables e below (s₁.setTop (mkF m 0 #[.val (.ref vb)] [])) t → Steps p.tables e below (s₁.setTop (entryFrame m #[(.ref vb)] 1)) t := fun t k => castTop (ef_rm6 m vb) k
  obtain ⟨T1, X1, e1, st1⟩ := getF X0 hx hZ hown (host := "") (Or.inl (hw _ (List.mem_of_getElem? (i := 40) rfl))) Via.refl e0 Fc (g := (mkF m 1 #[.val (.ref vb)] [(.ref vb)])) rfl rfl (hb hby d6_1)
  obtain ⟨fs, hr, hrun, hended, hW, hsame⟩ := X1.leave (v := some (.long vx)) (fun h => by rw [Bd.returns] at h; cases h)
  refine ⟨_, _, pre0 _ ?_, hrun, hended, _, _, rfl, ?_, ⟨_, rfl⟩, hW, hsame.mono (by decide) (by decide)⟩
  ·
    show Steps p.tables e below (s₁.setTop (mkF m 0 #[.val (.ref vb)] [])) _
    refine XS.aloadN X0.here hx rfl (hb hby d6_0) rfl rfl ?_
    show Steps p.tables e below (s₁.setTop (mkF m 1 #[.val (.ref vb)] [(.ref vb)])) _
    refine st1 _ ?_
    show Steps p.tables e below (T1.setTop (mkF m 4 #[.val (.ref vb)] [(.long vx)])) _
    exact retOut X1 hx (t := .long) (i := .lreturn) Bd.returns rfl (Or.inr (Or.inl ⟨rfl, rfl, _, rfl⟩)) (hb hby d6_4) hr
  ·
    show Q6 Z vb vx h0 n0 _ T1.heap _
    rw [e1]
    exact ⟨rfl, N0, rfl⟩
theorem d5_0 : decode prog_83_method_5_code 0 = .ok (.aload_n 0, 1) := by decide +kernel
theorem d5_1 : decode prog_83_method_5_code 1 = .ok (.getfield 35, 3) := by decide +kernel
theorem d5_4 : decode prog_83_method_5_code 4 = .ok (.lconst 0, 1) := by decide +kernel
theorem d5_5 : decode prog_83_method_5_code 5 = .ok (.lcmp, 1) := by decide +kernel
theorem d5_6 : decode prog_83_method_5_code 6 = .ok (.ifCond .ne 22, 3) := by decide +kernel
theorem d5_9 : decode prog_83_method_5_code 9 = .ok (.aload_n 0, 1) := by decide +kernel
theorem d5_10 : decode prog_83_method_5_code 10 = .ok (.getfield 31, 3) := by decide +kernel
theorem d5_13 : decode prog_83_method_5_code 13 = .ok (.aload_n 0, 1) := by decide +kernel
theorem d5_14 : decode prog_83_method_5_code 14 = .ok (.getfield 10, 3) := by decide +kernel
theorem pd_1 : parseMethodDescriptor "()J" = some ⟨[], some .long⟩ := by decide +kernel
theorem d5_17 : decode prog_83_method_5_code 17 = .ok (.invokevirtual 38, 3) := by decide +kernel
theorem d5_20 : decode prog_83_method_5_code 20 = .ok (.lcmp, 1) := by decide +kernel
theorem d5_21 : decode prog_83_method_5_code 21 = .ok (.ifCond .ne 7, 3) := by decide +kernel
theorem d5_24 : decode prog_83_method_5_code 24 = .ok (.iconst 1, 1) := by decide +kernel
theorem d5_25 : decode prog_83_method_5_code 25 = .ok (.goto 4, 3) := by decide +kernel
theorem d5_29 : decode prog_83_method_5_code 29 = .ok (.ireturn, 1) := by decide +kernel
theorem d5_28 : decode prog_83_method_5_code 28 = .ok (.iconst 0, 1) := by decide +kernel
theorem ef_rm5 (m : MethodId) (x0 : Addr) : entryFrame m #[(.ref x0)] 1 = mkF m 0 #[.val (.ref x0)] [] := by first | (simp [entryFrame, mkF, argsToLocals, Value.category]; done) | rfl
def own_held (va : Addr) (vb : Addr) (vt : Int64) : Int32 := (if vt = (0 : Int64) then (1 : Int32) else (0 : Int32))
def Q5 (Z : State) (va : Addr) (vb : Addr) (vt : Int64) (h0 : Heap) (n0 : Nat) (v : Option Value) (h : Heap) (L : List Loc) : Prop := v = some (.int (own_held va vb vt)) ∧ Fr n0 L ∧ h = h0
set_option maxRecDepth 65536 in
set_option maxHeartbeats 40000000 in
theorem rm5 (l : Launch) (Z : State) (a0 : Array Value) (hw : ∀ d ∈ tables_1, d.before a0 Z = true) (ws : List Jvm.Cond) (va : Addr) (vb : Addr) (vt : Int64) (h0 : Heap) (n0 : Nat) (Z0 : n0 ≤ h0.size) (Ea : Exa Z h0 va "com/example/weftlock/weftlock/Snapshots") (Fdur : Fld Z h0 va "com/example/weftlock/weftlock/Snapshots" "durations" "Lcom/example/weftlock/weftlock/DurationHistogram;" (.ref vb)) (Fatt : Fld Z h0 va "com/example/weftlock/weftlock/Snapshots" "attempts" "J" (.long vt)) (Fwr : Fld Z h0 va "com/example/weftlock/weftlock/Snapshots" "wrong" "J" (.long (0 : Int64))) (Eb : Exa Z h0 vb "com/example/weftlock/weftlock/DurationHistogram") (Fc : Fld Z h0 vb "com/example/weftlock/weftlock/DurationHistogram" "count" "J" (.long (0 : Int64))) :
    MetFree l (⟨"com/example/weftlock/weftlock/Snapshots", "held", "()Z"⟩ : MethodName) (head1 (Jvm.Cond.code (⟨"com/example/weftlock/weftlock/Snapshots", "held", "()Z"⟩ : MethodName) prog_83_method_5_code 1 (some .boolean) :: ws) ({ frames := 1, cells := 0, slots := 0, locals := 14 } : Room)) (fun a U => a = #[(.ref va)] ∧ Z.Warmed39 U.vm ∧ U.heap = h0) (fun _ _ _ _ _ => True) (fun _ U o U' => ∃ v L, o = .returned v ∧ Q5 Z va vb vt h0 n0 v U'.heap L ∧ FrameEnd U o U' L ({ frames := 1, cells := 0, slots := 0, locals := 14 } : Room).cells ({ frames := 1, cells := 0, slots := 0, locals := 14 } : Room).slots) := by
  refine MetFree.of_bodySF (plainFor_of_name pn_16) hisR ?_
  intro p e s m args below meth c s₁ Bd hml0 hP hK
  obtain ⟨rfl, hZ, hh⟩ := hP
  have hx := Bd.exec
  have hby := Bd.bytes
  have hml : c.maxLocals = 1 := hml0
  have hown : s.vm.findClass "com/example/weftlock/weftlock/Snapshots" = some m.cls := findClass_of_methodNamed Bd.named
  have hnm := (name_of_methodNamed Bd.named Bd.method).1
  have X0 : Stand p l e ({ frames := 1, cells := 0, slots := 0, locals := 14 } : Room) s m #[(.ref va)] below meth c s₁ [] 0 0 := Stand.of_body Bd
  have e0 : s₁.heap = h0 := by rw [← hh, Bd.state]; rfl
  have N0 := Fr.nil n0
  have pre0 : ∀ t, Steps p.tables e below (s₁.setTop (mkF m 0 #[.val (.ref va)] [])) t → Steps p.tables e below (s₁.setTop (entryFrame m #[(.ref va)] 1)) t := fun t k => castTop (ef_rm5 m va) k
  obtain ⟨T1, X1, e1, st1⟩ := getF X0 hx hZ hown (host := "") (Or.inl (hw _ (List.mem_of_getElem? (i := 33) rfl))) Via.refl e0 Fwr (g := (mkF m 1 #[.val (.ref va)] [(.ref va)])) rfl rfl (hb hby d5_1)
  obtain ⟨T2, X2, e2, st2⟩ := getF X1 hx hZ hown (host := "") (Or.inl (hw _ (List.mem_of_getElem? (i := 26) rfl))) Via.refl e1 Fatt (g := (mkF m 10 #[.val (.ref va)] [(.ref va)])) rfl rfl (hb hby d5_10)
  obtain ⟨T3, X3, e3, st3⟩ := getF X2 hx hZ hown (host := "") (Or.inl (hw _ (List.mem_of_getElem? (i := 19) rfl))) Via.refl e2 Fdur (g := (mkF m 14 #[.val (.ref va)] [(.ref va), (.long vt)])) rfl rfl (hb hby d5_14)
  obtain ⟨cq4, kq4, q4a, q4b, q4c⟩ := isOf hZ e3 Eb
  obtain ⟨_, _, ⟨T4, L4, k4, n4⟩, -, X4, ⟨Lc4, hQ4, l4, y4, z4⟩, st4⟩ := X3.virtualBack hx (y := (⟨"com/example/weftlock/weftlock/DurationHistogram", "count", "()J"⟩ : MethodName)) (z := (⟨"com/example/weftlock/weftlock/DurationHistogram", "count", "()J"⟩ : MethodName)) hown (mvT hZ (hw _ (List.mem_of_getElem? (i := 35) rfl))) (mvT hZ (hw _ (List.mem_of_getElem? (i := 36) rfl))) (notFace_of_selects (args := #[]) (mvT hZ (hw _ (List.mem_of_getElem? (i := 38) rfl)))) (mvT hZ (hw _ (List.mem_of_getElem? (i := 38) rfl))) (mvT hZ (hw _ (List.mem_of_getElem? (i := 37) rfl))) (by decide) (backOf (W := 2) (rm6 l Z a0 hw [] vb (0 : Int64) h0 n0 Z0 Fc) hZ (hw _ (List.mem_of_getElem? (i := 39) rfl)) (hw _ (List.mem_of_getElem? (i := 11) rfl)) (by decide) (by decide)) q4a q4c (g := (mkF m 17 #[.val (.ref va)] [(.ref vb), (.long vt)])) rfl (by rw [hml]; rfl) (Steps.refl _) (argsL := []) (rest := [(.long vt)]) (lenOf pd_1 rfl) rfl (by show 2 * 0 + _ ≤ _; exact Nat.le_of_eq rfl) (hb hby d5_17) (fun _ _ => ⟨rfl, e3, (by decide : 0 + 0 ≤ _), (by decide : 0 + 0 ≤ _)⟩)
  dsimp only [Pt.U, Pt.locs, Pt.cells, Pt.slots] at X4 l4 y4 z4 st4 hQ4
  subst l4 y4 z4
  obtain ⟨rfl, N4q, e4q⟩ := hQ4
  have N4 := Fr.app N0 N4q
  have pre5 : ∀ t, Steps p.tables e below (T4.setTop (mkF m 21 #[.val (.ref va)] [(.int (lcmpW vt (0 : Int64)))])) t → Steps p.tables e below (s₁.setTop (entryFrame m #[(.ref va)] 1)) t := by
    intro t kt
    refine pre0 t ?_
    show Steps p.tables e below (s₁.setTop (mkF m 0 #[.val (.ref va)] [])) _
    refine XS.aloadN X0.here hx rfl (hb hby d5_0) rfl rfl ?_
    show Steps p.tables e below (s₁.setTop (mkF m 1 #[.val (.ref va)] [(.ref va)])) _
    refine st1 _ ?_
    show Steps p.tables e below (T1.setTop (mkF m 4 #[.val (.ref va)] [(.long (0 : Int64))])) _
    refine XS.lconst X1.here hx rfl (hb hby d5_4) ?_
    show Steps p.tables e below (T1.setTop (mkF m 5 #[.val (.ref va)] [(.long (0 : Int64)), (.long (0 : Int64))])) _
    refine XS.lcmp X1.here hx rfl (hb hby d5_5) rfl ?_
    show Steps p.tables e below (T1.setTop (mkF m 6 #[.val (.ref va)] [(.int (lcmpW (0 : Int64) (0 : Int64)))])) _
    refine XS.ifNo X1.here hx rfl (hb hby d5_6) rfl ((if0 _ _).trans (teq (((lw_eq _ _).mpr rfl) : (lcmpW (0 : Int64) (0 : Int64)) = (0 : Int32))).2) ?_
    show Steps p.tables e below (T1.setTop (mkF m 9 #[.val (.ref va)] [])) _
    refine XS.aloadN X1.here hx rfl (hb hby d5_9) rfl rfl ?_
    show Steps p.tables e below (T1.setTop (mkF m 10 #[.val (.ref va)] [(.ref va)])) _
    refine st2 _ ?_
    show Steps p.tables e below (T2.setTop (mkF m 13 #[.val (.ref va)] [(.long vt)])) _
    refine XS.aloadN X2.here hx rfl (hb hby d5_13) rfl rfl ?_
    show Steps p.tables e below (T2.setTop (mkF m 14 #[.val (.ref va)] [(.ref va), (.long vt)])) _
    refine st3 _ ?_
    show Steps p.tables e below (T3.setTop (mkF m 17 #[.val (.ref va)] [(.ref vb), (.long vt)])) _
    refine st4.trans ?_
    show Steps p.tables e below (T4.setTop (mkF m 20 #[.val (.ref va)] [(.long (0 : Int64)), (.long vt)])) _
    refine XS.lcmp X4.here hx rfl (hb hby d5_20) rfl ?_
    exact kt
  by_cases hc6 : vt = (0 : Int64)
  ·
    obtain ⟨fs, hr, hrun, hended, hW, hsame⟩ := X4.leave (v := some (.int (1 : Int32))) (fun h => by rw [Bd.returns] at h; cases h)
    refine ⟨_, _, pre5 _ ?_, hrun, hended, _, _, rfl, ?_, ⟨_, rfl⟩, hW, hsame.mono (by decide) (by decide)⟩
    ·
      show Steps p.tables e below (T4.setTop (mkF m 21 #[.val (.ref va)] [(.int (lcmpW vt (0 : Int64)))])) _
      refine XS.ifNo X4.here hx rfl (hb hby d5_21) rfl ((if0 _ _).trans (teq (((lw_eq _ _).mpr hc6) : (lcmpW vt (0 : Int64)) = (0 : Int32))).2) ?_
      show Steps p.tables e below (T4.setTop (mkF m 24 #[.val (.ref va)] [])) _
      refine XS.iconst X4.here hx rfl (hb hby d5_24) ?_
      show Steps p.tables e below (T4.setTop (mkF m 25 #[.val (.ref va)] [(.int (1 : Int32))])) _
      refine XS.goto X4.here hx rfl (pc0 := 25) (pc' := 29) rfl (hb hby d5_25) (by decide) (by decide) ?_
      show Steps p.tables e below (T4.setTop (mkF m 29 #[.val (.ref va)] [(.int (1 : Int32))])) _
      exact retN X4 hx (t := .boolean) Bd.returns (by simp) (hb hby d5_29) hr
    ·
      show Q5 Z va vb vt h0 n0 _ T4.heap _
      rw [e4q]
      have hv : (1 : Int32) = (own_held va vb vt) := by rw [own_held, if_pos hc6]
      exact ⟨(congrArg (fun z => some (Value.int z)) hv), N4, rfl⟩
  ·
    obtain ⟨fs, hr, hrun, hended, hW, hsame⟩ := X4.leave (v := some (.int (0 : Int32))) (fun h => by rw [Bd.returns] at h; cases h)
    refine ⟨_, _, pre5 _ ?_, hrun, hended, _, _, rfl, ?_, ⟨_, rfl⟩, hW, hsame.mono (by decide) (by decide)⟩
    ·
      show Steps p.tables e below (T4.setTop (mkF m 21 #[.val (.ref va)] [(.int (lcmpW vt (0 : Int64)))])) _
      refine XS.ifYes X4.here hx rfl (pc0 := 21) (pc' := 28) rfl (hb hby d5_21) rfl ((if0 _ _).trans (feq ((fun q => hc6 ((lw_eq _ _).mp q)) : ¬ ((lcmpW vt (0 : Int64)) = (0 : Int32)))).2) (by decide) (by decide) ?_
      show Steps p.tables e below (T4.setTop (mkF m 28 #[.val (.ref va)] [])) _
      refine XS.iconst X4.here hx rfl (hb hby d5_28) ?_
      show Steps p.tables e below (T4.setTop (mkF m 29 #[.val (.ref va)] [(.int (0 : Int32))])) _
      exact retN X4 hx (t := .boolean) Bd.returns (by simp) (hb hby d5_29) hr
    ·
      show Q5 Z va vb vt h0 n0 _ T4.heap _
      rw [e4q]
      have hv : (0 : Int32) = (own_held va vb vt) := by rw [own_held, if_neg hc6]
      exact ⟨(congrArg (fun z => some (Value.int z)) hv), N4, rfl⟩

theorem own_add0 (x : Int64) : (0 : Int64) + x = x := Int64.zero_add x
theorem own_i2l0 (x : Int32) : x.toInt64 = 0 ↔ x = 0 := by
  constructor
  · intro q
    apply Int32.toInt_inj.mp
    have := congrArg Int64.toInt q
    rw [Int32.toInt_toInt64] at this
    exact this
  · intro q; subst q; rfl
theorem own_h1 {a b : Addr} {x k : Int32} (h : (x = 0 ∧ k = 1) ∨ (¬ x = 0 ∧ k = 0)) : own_held a b ((0 : Int64) + (x.toInt64)) = k := by
  rcases h with ⟨h, rfl⟩ | ⟨h, rfl⟩
  · rw [own_held, own_add0, if_pos ((own_i2l0 x).mpr h)]
  · rw [own_held, own_add0, if_neg (fun q => h ((own_i2l0 x).mp q))]
theorem own_h2 {a b : Addr} {x y k : Int32} (h : (x.toInt64 + y.toInt64 = (0 : Int64) ∧ k = 1) ∨ (¬ x.toInt64 + y.toInt64 = (0 : Int64) ∧ k = 0)) : own_held a b (((0 : Int64) + (x.toInt64)) + (y.toInt64)) = k := by
  rcases h with ⟨h, rfl⟩ | ⟨h, rfl⟩
  · rw [own_held, own_add0, if_pos h]
  · rw [own_held, own_add0, if_neg h]
theorem pd_2 : parseMethodDescriptor "(I)V" = some ⟨[.int], none⟩ := by decide +kernel
theorem pd_3 : parseMethodDescriptor "()Z" = some ⟨[], some .boolean⟩ := by decide +kernel
theorem pn_44 : plainName "com/example/weftlock/weftlock/SnapshotsCountAttemptsPinLaw" = true := by first | (simp [plainName, overriddenIn]; done) | decide +kernel
theorem ef_rm0 (m : MethodId) (x0 : Int32) (x1 : Int32) : entryFrame m #[(.int x0), (.int x1)] maxLocals = mkF m 0 #[.val (.int x0), .val (.int x1), .unset, .unset, .unset, .unset, .unset] [] := by first | (simp [entryFrame, mkF, argsToLocals, Value.category, maxLocals]; done) | rfl
def Q0 (Z : State) (vm : Int32) (vn : Int32) (h0 : Heap) (n0 : Nat) (v : Option Value) (h : Heap) (L : List Loc) : Prop := v = some (.int (1 : Int32)) ∧ Fr n0 L
set_option maxRecDepth 65536 in
set_option maxHeartbeats 40000000 in
theorem rm0 (l : Launch) (Z : State) (a0 : Array Value) (hw : ∀ d ∈ tables_1, d.before a0 Z = true) (ws : List Jvm.Cond) (vm : Int32) (vn : Int32) (h0 : Heap) (n0 : Nat) (Z0 : n0 ≤ h0.size) :
    MetFree l x (head1 (Jvm.Cond.code x code maxLocals ret :: ws) room_1) (fun a U => a = #[(.int vm), (.int vn)] ∧ Z.Warmed39 U.vm ∧ U.heap = h0) (fun _ _ _ _ _ => True) (fun _ U o U' => ∃ v L, o = .returned v ∧ Q0 Z vm vn h0 n0 v U'.heap L ∧ FrameEnd U o U' L room_1.cells room_1.slots) := by
  refine MetFree.of_bodySF (plainFor_of_name pn_44) hisR ?_
  intro p e s m args below meth c s₁ Bd hml0 hP hK
  obtain ⟨rfl, hZ, hh⟩ := hP
  have hx := Bd.exec
  have hby := Bd.bytes
  have hml : c.maxLocals = 7 := hml0
  have hown : s.vm.findClass "com/example/weftlock/weftlock/SnapshotsCountAttemptsPinLaw" = some m.cls := findClass_of_methodNamed Bd.named
  have hnm := (name_of_methodNamed Bd.named Bd.method).1
  have X0 : Stand p l e room_1 s m #[(.int vm), (.int vn)] below meth c s₁ [] 0 0 := Stand.of_body Bd
  have e0 : s₁.heap = h0 := by rw [← hh, Bd.state]; rfl
  have N0 := Fr.nil n0
  have pre0 : ∀ t, Steps p.tables e below (s₁.setTop (mkF m 0 #[.val (.int vm), .val (.int vn), .unset, .unset, .unset, .unset, .unset] [])) t → Steps p.tables e below (s₁.setTop (entryFrame m #[(.int vm), (.int vn)] maxLocals)) t := fun t k => castTop (ef_rm0 m vm vn) k
  obtain ⟨T1, h1, X1, e1, E1, A1, D1, -, st1⟩ := newO X0 hx hZ hown (hw _ (List.mem_of_getElem? (i := 0) rfl)) (hw _ (List.mem_of_getElem? (i := 1) rfl)) (hw _ (List.mem_of_getElem? (i := 2) rfl)) e0 (g := (mkF m 0 #[.val (.int vm), .val (.int vn), .unset, .unset, .unset, .unset, .unset] [])) rfl (hb hby at_0) (by decide) (by decide)
  obtain ⟨b1, g1⟩ : ∃ z, z = h0.size := ⟨_, rfl⟩
  rw [← g1] at A1 D1 st1
  have g_b1 : n0 ≤ b1 := Nat.le_trans Z0 (Nat.le_of_eq g1.symm)
  have sz_b1 : h0.size ≤ b1 := Nat.le_trans (Keep.refl h0 []).1 (Nat.le_of_eq g1.symm)
  have Z1 : n0 ≤ h1.size := Nat.le_trans Z0 E1.1
  have K1 : Keep h0 h1 [] := (Keep.refl h0 []).ext E1
  have F1_durations : Fld Z h1 b1 "com/example/weftlock/weftlock/Snapshots" "durations" "Lcom/example/weftlock/weftlock/DurationHistogram;" .null := D1 (Or.inr (hw _ (List.mem_of_getElem? (i := 20) rfl))) (ty := (.object "com/example/weftlock/weftlock/DurationHistogram")) (by decide)
  have F1_attempts : Fld Z h1 b1 "com/example/weftlock/weftlock/Snapshots" "attempts" "J" (.long (0 : Int64)) := D1 (Or.inl (hw _ (List.mem_of_getElem? (i := 27) rfl))) (ty := .long) (by decide)
  have F1_wrong : Fld Z h1 b1 "com/example/weftlock/weftlock/Snapshots" "wrong" "J" (.long (0 : Int64)) := D1 (Or.inl (hw _ (List.mem_of_getElem? (i := 34) rfl))) (ty := .long) (by decide)
  obtain ⟨_, _, ⟨T2, L2, k2, n2⟩, -, X2, ⟨Lc2, hQ2, l2, y2, z2⟩, st2⟩ := X1.specialBack hx (y := (⟨"com/example/weftlock/weftlock/Snapshots", "<init>", "()V"⟩ : MethodName)) rfl hown (mvT hZ (hw _ (List.mem_of_getElem? (i := 3) rfl))) (mvT hZ (hw _ (List.mem_of_getElem? (i := 4) rfl))) (mvT hZ (hw _ (List.mem_of_getElem? (i := 5) rfl))) (by decide) (backOf (W := 1) (rm1 l Z a0 hw [] b1  h1 n0 Z1 A1 F1_durations F1_attempts F1_wrong g_b1) hZ (hw _ (List.mem_of_getElem? (i := 5) rfl)) (hw _ (List.mem_of_getElem? (i := 2) rfl)) (by decide) (by decide)) (g := (mkF m 4 #[.val (.int vm), .val (.int vn), .unset, .unset, .unset, .unset, .unset] [(.ref b1), (.ref b1)])) rfl (by rw [hml]; rfl) (Steps.refl _) (a := b1) (argsL := []) (rest := [(.ref b1)]) (lenOf pd_0 rfl) rfl (by show 2 * 0 + _ ≤ _; exact Nat.le_of_eq rfl) (hb hby at_4) (fun _ _ => ⟨rfl, e1, (by decide : 1 + 2 ≤ _), (by decide : 3 + 3 ≤ _)⟩)
  dsimp only [Pt.U, Pt.locs, Pt.cells, Pt.slots] at X2 l2 y2 z2 st2 hQ2
  subst l2 y2 z2
  obtain ⟨rfl, N2q, K2q, ⟨vb2, szb2, nb2, f2_b0, f2_b1, f2_b2, f2_b3, f2_b4, f2_b5⟩⟩ := hQ2
  have N2 := Fr.app N0 N2q
  have Z2 : n0 ≤ T2.heap.size := Nat.le_trans Z1 K2q.1
  have c3 : Exa Z T2.heap b1 "com/example/weftlock/weftlock/Snapshots" := A1.keep K2q
  have K2 : Keep h0 T2.heap [] := K1.trans K2q (allS (Or.inr sz_b1) all0)
  obtain ⟨cq4, kq4, q4a, q4b, q4c⟩ := isOf hZ rfl f2_b0
  obtain ⟨_, _, ⟨T4, L4, k4, n4⟩, -, X4, ⟨Lc4, hQ4, l4, y4, z4⟩, st4⟩ := X2.virtualBack hx (y := (⟨"com/example/weftlock/weftlock/Snapshots", "countAttempts", "(I)V"⟩ : MethodName)) (z := (⟨"com/example/weftlock/weftlock/Snapshots", "countAttempts", "(I)V"⟩ : MethodName)) hown (mvT hZ (hw _ (List.mem_of_getElem? (i := 21) rfl))) (mvT hZ (hw _ (List.mem_of_getElem? (i := 22) rfl))) (notFace_of_selects (args := #[]) (mvT hZ (hw _ (List.mem_of_getElem? (i := 24) rfl)))) (mvT hZ (hw _ (List.mem_of_getElem? (i := 24) rfl))) (mvT hZ (hw _ (List.mem_of_getElem? (i := 23) rfl))) (by decide) (backOf (W := 0) (rm4 l Z a0 hw [] b1 vm vb2 (0 : Int64) T2.heap n0 Z2 f2_b0 f2_b1 f2_b2 f2_b3 g_b1) hZ (hw _ (List.mem_of_getElem? (i := 25) rfl)) (hw _ (List.mem_of_getElem? (i := 2) rfl)) (by decide) (by decide)) q4a q4c (g := (mkF m 10 #[.val (.int vm), .val (.int vn), .val (.ref b1), .unset, .unset, .unset, .unset] [(.int vm), (.ref b1)])) rfl (by rw [hml]; rfl) (Steps.refl _) (argsL := [(.int vm)]) (rest := []) (lenOf pd_2 rfl) rfl (by show 2 * 0 + _ ≤ _; exact Nat.le_of_eq rfl) (hb hby at_10) (fun _ _ => ⟨rfl, rfl, (by decide : 3 + 0 ≤ _), (by decide : 6 + 0 ≤ _)⟩)
  dsimp only [Pt.U, Pt.locs, Pt.cells, Pt.slots] at X4 l4 y4 z4 st4 hQ4
  subst l4 y4 z4
  obtain ⟨rfl, N4q, K4q, f4_0, f4_1, f4_2, f4_3⟩ := hQ4
  have N4 := Fr.app N2 N4q
  have Z4 : n0 ≤ T4.heap.size := Nat.le_trans Z2 K4q.1
  have c5 : Exa Z T4.heap b1 "com/example/weftlock/weftlock/Snapshots" := f2_b0.keep K4q
  have c6 : Exa Z T4.heap vb2 "com/example/weftlock/weftlock/DurationHistogram" := f2_b4.keep K4q
  have c7 : Fld Z T4.heap vb2 "com/example/weftlock/weftlock/DurationHistogram" "count" "J" (.long (0 : Int64)) := f2_b5.keep K4q (ninS nb2 nin0)
  have K4 : Keep h0 T4.heap [] := K2.trans K4q (allS (Or.inr sz_b1) all0)
  obtain ⟨cq8, kq8, q8a, q8b, q8c⟩ := isOf hZ rfl f4_0
  obtain ⟨_, _, ⟨T8, L8, k8, n8⟩, -, X8, ⟨Lc8, hQ8, l8, y8, z8⟩, st8⟩ := X4.virtualBack hx (y := (⟨"com/example/weftlock/weftlock/Snapshots", "held", "()Z"⟩ : MethodName)) (z := (⟨"com/example/weftlock/weftlock/Snapshots", "held", "()Z"⟩ : MethodName)) hown (mvT hZ (hw _ (List.mem_of_getElem? (i := 28) rfl))) (mvT hZ (hw _ (List.mem_of_getElem? (i := 29) rfl))) (notFace_of_selects (args := #[]) (mvT hZ (hw _ (List.mem_of_getElem? (i := 31) rfl)))) (mvT hZ (hw _ (List.mem_of_getElem? (i := 31) rfl))) (mvT hZ (hw _ (List.mem_of_getElem? (i := 30) rfl))) (by decide) (backOf (W := 0) (rm5 l Z a0 hw [] b1 vb2 ((0 : Int64) + (vm.toInt64)) T4.heap n0 Z4 f4_0 f4_1 f4_2 f4_3 c6 c7) hZ (hw _ (List.mem_of_getElem? (i := 32) rfl)) (hw _ (List.mem_of_getElem? (i := 2) rfl)) (by decide) (by decide)) q8a q8c (g := (mkF m 14 #[.val (.int vm), .val (.int vn), .val (.ref b1), .unset, .unset, .unset, .unset] [(.ref b1)])) rfl (by rw [hml]; rfl) (Steps.refl _) (argsL := []) (rest := []) (lenOf pd_3 rfl) rfl (by show 2 * 0 + _ ≤ _; exact Nat.le_of_eq rfl) (hb hby at_14) (fun _ _ => ⟨rfl, rfl, (by decide : 3 + 0 ≤ _), (by decide : 6 + 0 ≤ _)⟩)
  dsimp only [Pt.U, Pt.locs, Pt.cells, Pt.slots] at X8 l8 y8 z8 st8 hQ8
  subst l8 y8 z8
  obtain ⟨rfl, N8q, e8q⟩ := hQ8
  have N8 := Fr.app N4 N8q
  obtain ⟨cq9, kq9, q9a, q9b, q9c⟩ := isOf hZ e8q f4_0
  obtain ⟨_, _, ⟨T9, L9, k9, n9⟩, -, X9, ⟨Lc9, hQ9, l9, y9, z9⟩, st9⟩ := X8.virtualBack hx (y := (⟨"com/example/weftlock/weftlock/Snapshots", "countAttempts", "(I)V"⟩ : MethodName)) (z := (⟨"com/example/weftlock/weftlock/Snapshots", "countAttempts", "(I)V"⟩ : MethodName)) hown (mvT hZ (hw _ (List.mem_of_getElem? (i := 21) rfl))) (mvT hZ (hw _ (List.mem_of_getElem? (i := 22) rfl))) (notFace_of_selects (args := #[]) (mvT hZ (hw _ (List.mem_of_getElem? (i := 24) rfl)))) (mvT hZ (hw _ (List.mem_of_getElem? (i := 24) rfl))) (mvT hZ (hw _ (List.mem_of_getElem? (i := 23) rfl))) (by decide) (backOf (W := 0) (rm4 l Z a0 hw [] b1 vn vb2 ((0 : Int64) + (vm.toInt64)) T4.heap n0 Z4 f4_0 f4_1 f4_2 f4_3 g_b1) hZ (hw _ (List.mem_of_getElem? (i := 25) rfl)) (hw _ (List.mem_of_getElem? (i := 2) rfl)) (by decide) (by decide)) q9a q9c (g := (mkF m 20 #[.val (.int vm), .val (.int vn), .val (.ref b1), .val (.int (own_held b1 vb2 ((0 : Int64) + (vm.toInt64)))), .unset, .unset, .unset] [(.int vn), (.ref b1)])) rfl (by rw [hml]; rfl) (Steps.refl _) (argsL := [(.int vn)]) (rest := []) (lenOf pd_2 rfl) rfl (by show 2 * 0 + _ ≤ _; exact Nat.le_of_eq rfl) (hb hby at_20) (fun _ _ => ⟨rfl, e8q, (by decide : 3 + 0 ≤ _), (by decide : 6 + 0 ≤ _)⟩)
  dsimp only [Pt.U, Pt.locs, Pt.cells, Pt.slots] at X9 l9 y9 z9 st9 hQ9
  subst l9 y9 z9
  obtain ⟨rfl, N9q, K9q, f9_0, f9_1, f9_2, f9_3⟩ := hQ9
  have N9 := Fr.app N8 N9q
  have Z9 : n0 ≤ T9.heap.size := Nat.le_trans Z4 K9q.1
  have c10 : Exa Z T9.heap vb2 "com/example/weftlock/weftlock/DurationHistogram" := c6.keep K9q
  have c11 : Fld Z T9.heap vb2 "com/example/weftlock/weftlock/DurationHistogram" "count" "J" (.long (0 : Int64)) := c7.keep K9q (ninS nb2 nin0)
  have c12 : Exa Z T9.heap b1 "com/example/weftlock/weftlock/Snapshots" := f4_0.keep K9q
  have K9 : Keep h0 T9.heap [] := K4.trans K9q (allS (Or.inr sz_b1) all0)
  obtain ⟨cq13, kq13, q13a, q13b, q13c⟩ := isOf hZ rfl f9_0
  obtain ⟨_, _, ⟨T13, L13, k13, n13⟩, -, X13, ⟨Lc13, hQ13, l13, y13, z13⟩, st13⟩ := X9.virtualBack hx (y := (⟨"com/example/weftlock/weftlock/Snapshots", "held", "()Z"⟩ : MethodName)) (z := (⟨"com/example/weftlock/weftlock/Snapshots", "held", "()Z"⟩ : MethodName)) hown (mvT hZ (hw _ (List.mem_of_getElem? (i := 28) rfl))) (mvT hZ (hw _ (List.mem_of_getElem? (i := 29) rfl))) (notFace_of_selects (args := #[]) (mvT hZ (hw _ (List.mem_of_getElem? (i := 31) rfl)))) (mvT hZ (hw _ (List.mem_of_getElem? (i := 31) rfl))) (mvT hZ (hw _ (List.mem_of_getElem? (i := 30) rfl))) (by decide) (backOf (W := 0) (rm5 l Z a0 hw [] b1 vb2 (((0 : Int64) + (vm.toInt64)) + (vn.toInt64)) T9.heap n0 Z9 f9_0 f9_1 f9_2 f9_3 c10 c11) hZ (hw _ (List.mem_of_getElem? (i := 32) rfl)) (hw _ (List.mem_of_getElem? (i := 2) rfl)) (by decide) (by decide)) q13a q13c (g := (mkF m 24 #[.val (.int vm), .val (.int vn), .val (.ref b1), .val (.int (own_held b1 vb2 ((0 : Int64) + (vm.toInt64)))), .unset, .unset, .unset] [(.ref b1)])) rfl (by rw [hml]; rfl) (Steps.refl _) (argsL := []) (rest := []) (lenOf pd_3 rfl) rfl (by show 2 * 0 + _ ≤ _; exact Nat.le_of_eq rfl) (hb hby at_24) (fun _ _ => ⟨rfl, rfl, (by decide : 3 + 0 ≤ _), (by decide : 6 + 0 ≤ _)⟩)
  dsimp only [Pt.U, Pt.locs, Pt.cells, Pt.slots] at X13 l13 y13 z13 st13 hQ13
  subst l13 y13 z13
  obtain ⟨rfl, N13q, e13q⟩ := hQ13
  have N13 := Fr.app N9 N13q
  have pre14 : ∀ t, Steps p.tables e below (T13.setTop (mkF m 30 #[.val (.int vm), .val (.int vn), .val (.ref b1), .val (.int (own_held b1 vb2 ((0 : Int64) + (vm.toInt64)))), .val (.int (own_held b1 vb2 (((0 : Int64) + (vm.toInt64)) + (vn.toInt64)))), .unset, .unset] [(.int vm)])) t → Steps p.tables e below (s₁.setTop (entryFrame m #[(.int vm), (.int vn)] maxLocals)) t := by
    intro t kt
    refine pre0 t ?_
    show Steps p.tables e below (s₁.setTop (mkF m 0 #[.val (.int vm), .val (.int vn), .unset, .unset, .unset, .unset, .unset] [])) _
    refine st1 _ ?_
    show Steps p.tables e below (T1.setTop (mkF m 3 #[.val (.int vm), .val (.int vn), .unset, .unset, .unset, .unset, .unset] [(.ref b1)])) _
    refine XS.dup X1.here hx rfl (hb hby at_3) rfl rfl ?_
    show Steps p.tables e below (T1.setTop (mkF m 4 #[.val (.int vm), .val (.int vn), .unset, .unset, .unset, .unset, .unset] [(.ref b1), (.ref b1)])) _
    refine st2.trans ?_
    show Steps p.tables e below (T2.setTop (mkF m 7 #[.val (.int vm), .val (.int vn), .unset, .unset, .unset, .unset, .unset] [(.ref b1)])) _
    refine XS.astoreN X2.here hx rfl (hb hby at_7) rfl rfl (l' := #[.val (.int vm), .val (.int vn), .val (.ref b1), .unset, .unset, .unset, .unset]) rfl ?_
    show Steps p.tables e below (T2.setTop (mkF m 8 #[.val (.int vm), .val (.int vn), .val (.ref b1), .unset, .unset, .unset, .unset] [])) _
    refine XS.aloadN X2.here hx rfl (hb hby at_8) rfl rfl ?_
    show Steps p.tables e below (T2.setTop (mkF m 9 #[.val (.int vm), .val (.int vn), .val (.ref b1), .unset, .unset, .unset, .unset] [(.ref b1)])) _
    refine XS.iloadN X2.here hx rfl (hb hby at_9) rfl ?_
    show Steps p.tables e below (T2.setTop (mkF m 10 #[.val (.int vm), .val (.int vn), .val (.ref b1), .unset, .unset, .unset, .unset] [(.int vm), (.ref b1)])) _
    refine st4.trans ?_
    show Steps p.tables e below (T4.setTop (mkF m 13 #[.val (.int vm), .val (.int vn), .val (.ref b1), .unset, .unset, .unset, .unset] [])) _
    refine XS.aloadN X4.here hx rfl (hb hby at_13) rfl rfl ?_
    show Steps p.tables e below (T4.setTop (mkF m 14 #[.val (.int vm), .val (.int vn), .val (.ref b1), .unset, .unset, .unset, .unset] [(.ref b1)])) _
    refine st8.trans ?_
    show Steps p.tables e below (T8.setTop (mkF m 17 #[.val (.int vm), .val (.int vn), .val (.ref b1), .unset, .unset, .unset, .unset] [(.int (own_held b1 vb2 ((0 : Int64) + (vm.toInt64))))])) _
    refine XS.istoreN X8.here hx rfl (hb hby at_17) rfl (l' := #[.val (.int vm), .val (.int vn), .val (.ref b1), .val (.int (own_held b1 vb2 ((0 : Int64) + (vm.toInt64)))), .unset, .unset, .unset]) rfl ?_
    show Steps p.tables e below (T8.setTop (mkF m 18 #[.val (.int vm), .val (.int vn), .val (.ref b1), .val (.int (own_held b1 vb2 ((0 : Int64) + (vm.toInt64)))), .unset, .unset, .unset] [])) _
    refine XS.aloadN X8.here hx rfl (hb hby at_18) rfl rfl ?_
    show Steps p.tables e below (T8.setTop (mkF m 19 #[.val (.int vm), .val (.int vn), .val (.ref b1), .val (.int (own_held b1 vb2 ((0 : Int64) + (vm.toInt64)))), .unset, .unset, .unset] [(.ref b1)])) _
    refine XS.iloadN X8.here hx rfl (hb hby at_19) rfl ?_
    show Steps p.tables e below (T8.setTop (mkF m 20 #[.val (.int vm), .val (.int vn), .val (.ref b1), .val (.int (own_held b1 vb2 ((0 : Int64) + (vm.toInt64)))), .unset, .unset, .unset] [(.int vn), (.ref b1)])) _
    refine st9.trans ?_
    show Steps p.tables e below (T9.setTop (mkF m 23 #[.val (.int vm), .val (.int vn), .val (.ref b1), .val (.int (own_held b1 vb2 ((0 : Int64) + (vm.toInt64)))), .unset, .unset, .unset] [])) _
    refine XS.aloadN X9.here hx rfl (hb hby at_23) rfl rfl ?_
    show Steps p.tables e below (T9.setTop (mkF m 24 #[.val (.int vm), .val (.int vn), .val (.ref b1), .val (.int (own_held b1 vb2 ((0 : Int64) + (vm.toInt64)))), .unset, .unset, .unset] [(.ref b1)])) _
    refine st13.trans ?_
    show Steps p.tables e below (T13.setTop (mkF m 27 #[.val (.int vm), .val (.int vn), .val (.ref b1), .val (.int (own_held b1 vb2 ((0 : Int64) + (vm.toInt64)))), .unset, .unset, .unset] [(.int (own_held b1 vb2 (((0 : Int64) + (vm.toInt64)) + (vn.toInt64))))])) _
    refine XS.istore X13.here hx rfl (hb hby at_27) rfl (l' := #[.val (.int vm), .val (.int vn), .val (.ref b1), .val (.int (own_held b1 vb2 ((0 : Int64) + (vm.toInt64)))), .val (.int (own_held b1 vb2 (((0 : Int64) + (vm.toInt64)) + (vn.toInt64)))), .unset, .unset]) rfl ?_
    show Steps p.tables e below (T13.setTop (mkF m 29 #[.val (.int vm), .val (.int vn), .val (.ref b1), .val (.int (own_held b1 vb2 ((0 : Int64) + (vm.toInt64)))), .val (.int (own_held b1 vb2 (((0 : Int64) + (vm.toInt64)) + (vn.toInt64)))), .unset, .unset] [])) _
    refine XS.iloadN X13.here hx rfl (hb hby at_29) rfl ?_
    exact kt
  by_cases hc15 : vm = (0 : Int32)
  ·
    have pre16 : ∀ t, Steps p.tables e below (T13.setTop (mkF m 47 #[.val (.int vm), .val (.int vn), .val (.ref b1), .val (.int (own_held b1 vb2 ((0 : Int64) + (vm.toInt64)))), .val (.int (own_held b1 vb2 (((0 : Int64) + (vm.toInt64)) + (vn.toInt64)))), .val (.int (1 : Int32)), .unset] [(.int (lcmpW ((vm.toInt64) + (vn.toInt64)) (0 : Int64)))])) t → Steps p.tables e below (s₁.setTop (entryFrame m #[(.int vm), (.int vn)] maxLocals)) t := by
      intro t kt
      refine pre14 t ?_
      show Steps p.tables e below (T13.setTop (mkF m 30 #[.val (.int vm), .val (.int vn), .val (.ref b1), .val (.int (own_held b1 vb2 ((0 : Int64) + (vm.toInt64)))), .val (.int (own_held b1 vb2 (((0 : Int64) + (vm.toInt64)) + (vn.toInt64)))), .unset, .unset] [(.int vm)])) _
      refine XS.ifNo X13.here hx rfl (hb hby at_30) rfl ((if0 _ _).trans (teq (hc15 : vm = (0 : Int32))).2) ?_
      show Steps p.tables e below (T13.setTop (mkF m 33 #[.val (.int vm), .val (.int vn), .val (.ref b1), .val (.int (own_held b1 vb2 ((0 : Int64) + (vm.toInt64)))), .val (.int (own_held b1 vb2 (((0 : Int64) + (vm.toInt64)) + (vn.toInt64)))), .unset, .unset] [])) _
      refine XS.iconst X13.here hx rfl (hb hby at_33) ?_
      show Steps p.tables e below (T13.setTop (mkF m 34 #[.val (.int vm), .val (.int vn), .val (.ref b1), .val (.int (own_held b1 vb2 ((0 : Int64) + (vm.toInt64)))), .val (.int (own_held b1 vb2 (((0 : Int64) + (vm.toInt64)) + (vn.toInt64)))), .unset, .unset] [(.int (1 : Int32))])) _
      refine XS.goto X13.here hx rfl (pc0 := 34) (pc' := 38) rfl (hb hby at_34) (by decide) (by decide) ?_
      show Steps p.tables e below (T13.setTop (mkF m 38 #[.val (.int vm), .val (.int vn), .val (.ref b1), .val (.int (own_held b1 vb2 ((0 : Int64) + (vm.toInt64)))), .val (.int (own_held b1 vb2 (((0 : Int64) + (vm.toInt64)) + (vn.toInt64)))), .unset, .unset] [(.int (1 : Int32))])) _
      refine XS.istore X13.here hx rfl (hb hby at_38) rfl (l' := #[.val (.int vm), .val (.int vn), .val (.ref b1), .val (.int (own_held b1 vb2 ((0 : Int64) + (vm.toInt64)))), .val (.int (own_held b1 vb2 (((0 : Int64) + (vm.toInt64)) + (vn.toInt64)))), .val (.int (1 : Int32)), .unset]) rfl ?_
      show Steps p.tables e below (T13.setTop (mkF m 40 #[.val (.int vm), .val (.int vn), .val (.ref b1), .val (.int (own_held b1 vb2 ((0 : Int64) + (vm.toInt64)))), .val (.int (own_held b1 vb2 (((0 : Int64) + (vm.toInt64)) + (vn.toInt64)))), .val (.int (1 : Int32)), .unset] [])) _
      refine XS.iloadN X13.here hx rfl (hb hby at_40) rfl ?_
      show Steps p.tables e below (T13.setTop (mkF m 41 #[.val (.int vm), .val (.int vn), .val (.ref b1), .val (.int (own_held b1 vb2 ((0 : Int64) + (vm.toInt64)))), .val (.int (own_held b1 vb2 (((0 : Int64) + (vm.toInt64)) + (vn.toInt64)))), .val (.int (1 : Int32)), .unset] [(.int vm)])) _
      refine XS.i2l X13.here hx rfl (hb hby at_41) rfl ?_
      show Steps p.tables e below (T13.setTop (mkF m 42 #[.val (.int vm), .val (.int vn), .val (.ref b1), .val (.int (own_held b1 vb2 ((0 : Int64) + (vm.toInt64)))), .val (.int (own_held b1 vb2 (((0 : Int64) + (vm.toInt64)) + (vn.toInt64)))), .val (.int (1 : Int32)), .unset] [(.long (vm.toInt64))])) _
      refine XS.iloadN X13.here hx rfl (hb hby at_42) rfl ?_
      show Steps p.tables e below (T13.setTop (mkF m 43 #[.val (.int vm), .val (.int vn), .val (.ref b1), .val (.int (own_held b1 vb2 ((0 : Int64) + (vm.toInt64)))), .val (.int (own_held b1 vb2 (((0 : Int64) + (vm.toInt64)) + (vn.toInt64)))), .val (.int (1 : Int32)), .unset] [(.int vn), (.long (vm.toInt64))])) _
      refine XS.i2l X13.here hx rfl (hb hby at_43) rfl ?_
      show Steps p.tables e below (T13.setTop (mkF m 44 #[.val (.int vm), .val (.int vn), .val (.ref b1), .val (.int (own_held b1 vb2 ((0 : Int64) + (vm.toInt64)))), .val (.int (own_held b1 vb2 (((0 : Int64) + (vm.toInt64)) + (vn.toInt64)))), .val (.int (1 : Int32)), .unset] [(.long (vn.toInt64)), (.long (vm.toInt64))])) _
      refine XS.ladd X13.here hx rfl (hb hby at_44) rfl ?_
      show Steps p.tables e below (T13.setTop (mkF m 45 #[.val (.int vm), .val (.int vn), .val (.ref b1), .val (.int (own_held b1 vb2 ((0 : Int64) + (vm.toInt64)))), .val (.int (own_held b1 vb2 (((0 : Int64) + (vm.toInt64)) + (vn.toInt64)))), .val (.int (1 : Int32)), .unset] [(.long ((vm.toInt64) + (vn.toInt64)))])) _
      refine XS.lconst X13.here hx rfl (hb hby at_45) ?_
      show Steps p.tables e below (T13.setTop (mkF m 46 #[.val (.int vm), .val (.int vn), .val (.ref b1), .val (.int (own_held b1 vb2 ((0 : Int64) + (vm.toInt64)))), .val (.int (own_held b1 vb2 (((0 : Int64) + (vm.toInt64)) + (vn.toInt64)))), .val (.int (1 : Int32)), .unset] [(.long (0 : Int64)), (.long ((vm.toInt64) + (vn.toInt64)))])) _
      refine XS.lcmp X13.here hx rfl (hb hby at_46) rfl ?_
      exact kt
    by_cases hc17 : ((vm.toInt64) + (vn.toInt64)) = (0 : Int64)
    ·
      obtain ⟨fs, hr, hrun, hended, hW, hsame⟩ := X13.leave (v := some (.int (1 : Int32))) (fun h => by rw [Bd.returns] at h; cases h)
      refine ⟨_, _, pre16 _ ?_, hrun, hended, _, _, rfl, ?_, ⟨_, rfl⟩, hW, hsame.mono (by decide) (by decide)⟩
      ·
        show Steps p.tables e below (T13.setTop (mkF m 47 #[.val (.int vm), .val (.int vn), .val (.ref b1), .val (.int (own_held b1 vb2 ((0 : Int64) + (vm.toInt64)))), .val (.int (own_held b1 vb2 (((0 : Int64) + (vm.toInt64)) + (vn.toInt64)))), .val (.int (1 : Int32)), .unset] [(.int (lcmpW ((vm.toInt64) + (vn.toInt64)) (0 : Int64)))])) _
        refine XS.ifNo X13.here hx rfl (hb hby at_47) rfl ((if0 _ _).trans (teq (((lw_eq _ _).mpr hc17) : (lcmpW ((vm.toInt64) + (vn.toInt64)) (0 : Int64)) = (0 : Int32))).2) ?_
        show Steps p.tables e below (T13.setTop (mkF m 50 #[.val (.int vm), .val (.int vn), .val (.ref b1), .val (.int (own_held b1 vb2 ((0 : Int64) + (vm.toInt64)))), .val (.int (own_held b1 vb2 (((0 : Int64) + (vm.toInt64)) + (vn.toInt64)))), .val (.int (1 : Int32)), .unset] [])) _
        refine XS.iconst X13.here hx rfl (hb hby at_50) ?_
        show Steps p.tables e below (T13.setTop (mkF m 51 #[.val (.int vm), .val (.int vn), .val (.ref b1), .val (.int (own_held b1 vb2 ((0 : Int64) + (vm.toInt64)))), .val (.int (own_held b1 vb2 (((0 : Int64) + (vm.toInt64)) + (vn.toInt64)))), .val (.int (1 : Int32)), .unset] [(.int (1 : Int32))])) _
        refine XS.goto X13.here hx rfl (pc0 := 51) (pc' := 55) rfl (hb hby at_51) (by decide) (by decide) ?_
        show Steps p.tables e below (T13.setTop (mkF m 55 #[.val (.int vm), .val (.int vn), .val (.ref b1), .val (.int (own_held b1 vb2 ((0 : Int64) + (vm.toInt64)))), .val (.int (own_held b1 vb2 (((0 : Int64) + (vm.toInt64)) + (vn.toInt64)))), .val (.int (1 : Int32)), .unset] [(.int (1 : Int32))])) _
        refine XS.istore X13.here hx rfl (hb hby at_55) rfl (l' := #[.val (.int vm), .val (.int vn), .val (.ref b1), .val (.int (own_held b1 vb2 ((0 : Int64) + (vm.toInt64)))), .val (.int (own_held b1 vb2 (((0 : Int64) + (vm.toInt64)) + (vn.toInt64)))), .val (.int (1 : Int32)), .val (.int (1 : Int32))]) rfl ?_
        show Steps p.tables e below (T13.setTop (mkF m 57 #[.val (.int vm), .val (.int vn), .val (.ref b1), .val (.int (own_held b1 vb2 ((0 : Int64) + (vm.toInt64)))), .val (.int (own_held b1 vb2 (((0 : Int64) + (vm.toInt64)) + (vn.toInt64)))), .val (.int (1 : Int32)), .val (.int (1 : Int32))] [])) _
        refine XS.iloadN X13.here hx rfl (hb hby at_57) rfl ?_
        show Steps p.tables e below (T13.setTop (mkF m 58 #[.val (.int vm), .val (.int vn), .val (.ref b1), .val (.int (own_held b1 vb2 ((0 : Int64) + (vm.toInt64)))), .val (.int (own_held b1 vb2 (((0 : Int64) + (vm.toInt64)) + (vn.toInt64)))), .val (.int (1 : Int32)), .val (.int (1 : Int32))] [(.int (own_held b1 vb2 ((0 : Int64) + (vm.toInt64))))])) _
        refine XS.iload X13.here hx rfl (hb hby at_58) rfl ?_
        show Steps p.tables e below (T13.setTop (mkF m 60 #[.val (.int vm), .val (.int vn), .val (.ref b1), .val (.int (own_held b1 vb2 ((0 : Int64) + (vm.toInt64)))), .val (.int (own_held b1 vb2 (((0 : Int64) + (vm.toInt64)) + (vn.toInt64)))), .val (.int (1 : Int32)), .val (.int (1 : Int32))] [(.int (1 : Int32)), (.int (own_held b1 vb2 ((0 : Int64) + (vm.toInt64))))])) _
        refine XS.icmpNo X13.here hx rfl (hb hby at_60) rfl (teq ((own_h1 (Or.inl ⟨hc15, rfl⟩) ) : (own_held b1 vb2 ((0 : Int64) + (vm.toInt64))) = (1 : Int32))).2 ?_
        show Steps p.tables e below (T13.setTop (mkF m 63 #[.val (.int vm), .val (.int vn), .val (.ref b1), .val (.int (own_held b1 vb2 ((0 : Int64) + (vm.toInt64)))), .val (.int (own_held b1 vb2 (((0 : Int64) + (vm.toInt64)) + (vn.toInt64)))), .val (.int (1 : Int32)), .val (.int (1 : Int32))] [])) _
        refine XS.iload X13.here hx rfl (hb hby at_63) rfl ?_
        show Steps p.tables e below (T13.setTop (mkF m 65 #[.val (.int vm), .val (.int vn), .val (.ref b1), .val (.int (own_held b1 vb2 ((0 : Int64) + (vm.toInt64)))), .val (.int (own_held b1 vb2 (((0 : Int64) + (vm.toInt64)) + (vn.toInt64)))), .val (.int (1 : Int32)), .val (.int (1 : Int32))] [(.int (own_held b1 vb2 (((0 : Int64) + (vm.toInt64)) + (vn.toInt64))))])) _
        refine XS.iload X13.here hx rfl (hb hby at_65) rfl ?_
        show Steps p.tables e below (T13.setTop (mkF m 67 #[.val (.int vm), .val (.int vn), .val (.ref b1), .val (.int (own_held b1 vb2 ((0 : Int64) + (vm.toInt64)))), .val (.int (own_held b1 vb2 (((0 : Int64) + (vm.toInt64)) + (vn.toInt64)))), .val (.int (1 : Int32)), .val (.int (1 : Int32))] [(.int (1 : Int32)), (.int (own_held b1 vb2 (((0 : Int64) + (vm.toInt64)) + (vn.toInt64))))])) _
        refine XS.icmpNo X13.here hx rfl (hb hby at_67) rfl (teq ((own_h2 (Or.inl ⟨hc17, rfl⟩) ) : (own_held b1 vb2 (((0 : Int64) + (vm.toInt64)) + (vn.toInt64))) = (1 : Int32))).2 ?_
        show Steps p.tables e below (T13.setTop (mkF m 70 #[.val (.int vm), .val (.int vn), .val (.ref b1), .val (.int (own_held b1 vb2 ((0 : Int64) + (vm.toInt64)))), .val (.int (own_held b1 vb2 (((0 : Int64) + (vm.toInt64)) + (vn.toInt64)))), .val (.int (1 : Int32)), .val (.int (1 : Int32))] [])) _
        refine XS.iconst X13.here hx rfl (hb hby at_70) ?_
        show Steps p.tables e below (T13.setTop (mkF m 71 #[.val (.int vm), .val (.int vn), .val (.ref b1), .val (.int (own_held b1 vb2 ((0 : Int64) + (vm.toInt64)))), .val (.int (own_held b1 vb2 (((0 : Int64) + (vm.toInt64)) + (vn.toInt64)))), .val (.int (1 : Int32)), .val (.int (1 : Int32))] [(.int (1 : Int32))])) _
        refine XS.goto X13.here hx rfl (pc0 := 71) (pc' := 75) rfl (hb hby at_71) (by decide) (by decide) ?_
        show Steps p.tables e below (T13.setTop (mkF m 75 #[.val (.int vm), .val (.int vn), .val (.ref b1), .val (.int (own_held b1 vb2 ((0 : Int64) + (vm.toInt64)))), .val (.int (own_held b1 vb2 (((0 : Int64) + (vm.toInt64)) + (vn.toInt64)))), .val (.int (1 : Int32)), .val (.int (1 : Int32))] [(.int (1 : Int32))])) _
        exact retN X13 hx (t := .boolean) Bd.returns (by simp) (hb hby at_75) hr
      ·
        show Q0 Z vm vn h0 n0 _ T13.heap _
        rw [e13q]
        exact ⟨rfl, N13⟩
    ·
      obtain ⟨fs, hr, hrun, hended, hW, hsame⟩ := X13.leave (v := some (.int (1 : Int32))) (fun h => by rw [Bd.returns] at h; cases h)
      refine ⟨_, _, pre16 _ ?_, hrun, hended, _, _, rfl, ?_, ⟨_, rfl⟩, hW, hsame.mono (by decide) (by decide)⟩
      ·
        show Steps p.tables e below (T13.setTop (mkF m 47 #[.val (.int vm), .val (.int vn), .val (.ref b1), .val (.int (own_held b1 vb2 ((0 : Int64) + (vm.toInt64)))), .val (.int (own_held b1 vb2 (((0 : Int64) + (vm.toInt64)) + (vn.toInt64)))), .val (.int (1 : Int32)), .unset] [(.int (lcmpW ((vm.toInt64) + (vn.toInt64)) (0 : Int64)))])) _
        refine XS.ifYes X13.here hx rfl (pc0 := 47) (pc' := 54) rfl (hb hby at_47) rfl ((if0 _ _).trans (feq ((fun q => hc17 ((lw_eq _ _).mp q)) : ¬ ((lcmpW ((vm.toInt64) + (vn.toInt64)) (0 : Int64)) = (0 : Int32)))).2) (by decide) (by decide) ?_
        show Steps p.tables e below (T13.setTop (mkF m 54 #[.val (.int vm), .val (.int vn), .val (.ref b1), .val (.int (own_held b1 vb2 ((0 : Int64) + (vm.toInt64)))), .val (.int (own_held b1 vb2 (((0 : Int64) + (vm.toInt64)) + (vn.toInt64)))), .val (.int (1 : Int32)), .unset] [])) _
        refine XS.iconst X13.here hx rfl (hb hby at_54) ?_
        show Steps p.tables e below (T13.setTop (mkF m 55 #[.val (.int vm), .val (.int vn), .val (.ref b1), .val (.int (own_held b1 vb2 ((0 : Int64) + (vm.toInt64)))), .val (.int (own_held b1 vb2 (((0 : Int64) + (vm.toInt64)) + (vn.toInt64)))), .val (.int (1 : Int32)), .unset] [(.int (0 : Int32))])) _
        refine XS.istore X13.here hx rfl (hb hby at_55) rfl (l' := #[.val (.int vm), .val (.int vn), .val (.ref b1), .val (.int (own_held b1 vb2 ((0 : Int64) + (vm.toInt64)))), .val (.int (own_held b1 vb2 (((0 : Int64) + (vm.toInt64)) + (vn.toInt64)))), .val (.int (1 : Int32)), .val (.int (0 : Int32))]) rfl ?_
        show Steps p.tables e below (T13.setTop (mkF m 57 #[.val (.int vm), .val (.int vn), .val (.ref b1), .val (.int (own_held b1 vb2 ((0 : Int64) + (vm.toInt64)))), .val (.int (own_held b1 vb2 (((0 : Int64) + (vm.toInt64)) + (vn.toInt64)))), .val (.int (1 : Int32)), .val (.int (0 : Int32))] [])) _
        refine XS.iloadN X13.here hx rfl (hb hby at_57) rfl ?_
        show Steps p.tables e below (T13.setTop (mkF m 58 #[.val (.int vm), .val (.int vn), .val (.ref b1), .val (.int (own_held b1 vb2 ((0 : Int64) + (vm.toInt64)))), .val (.int (own_held b1 vb2 (((0 : Int64) + (vm.toInt64)) + (vn.toInt64)))), .val (.int (1 : Int32)), .val (.int (0 : Int32))] [(.int (own_held b1 vb2 ((0 : Int64) + (vm.toInt64))))])) _
        refine XS.iload X13.here hx rfl (hb hby at_58) rfl ?_
        show Steps p.tables e below (T13.setTop (mkF m 60 #[.val (.int vm), .val (.int vn), .val (.ref b1), .val (.int (own_held b1 vb2 ((0 : Int64) + (vm.toInt64)))), .val (.int (own_held b1 vb2 (((0 : Int64) + (vm.toInt64)) + (vn.toInt64)))), .val (.int (1 : Int32)), .val (.int (0 : Int32))] [(.int (1 : Int32)), (.int (own_held b1 vb2 ((0 : Int64) + (vm.toInt64))))])) _
        refine XS.icmpNo X13.here hx rfl (hb hby at_60) rfl (teq ((own_h1 (Or.inl ⟨hc15, rfl⟩) ) : (own_held b1 vb2 ((0 : Int64) + (vm.toInt64))) = (1 : Int32))).2 ?_
        show Steps p.tables e below (T13.setTop (mkF m 63 #[.val (.int vm), .val (.int vn), .val (.ref b1), .val (.int (own_held b1 vb2 ((0 : Int64) + (vm.toInt64)))), .val (.int (own_held b1 vb2 (((0 : Int64) + (vm.toInt64)) + (vn.toInt64)))), .val (.int (1 : Int32)), .val (.int (0 : Int32))] [])) _
        refine XS.iload X13.here hx rfl (hb hby at_63) rfl ?_
        show Steps p.tables e below (T13.setTop (mkF m 65 #[.val (.int vm), .val (.int vn), .val (.ref b1), .val (.int (own_held b1 vb2 ((0 : Int64) + (vm.toInt64)))), .val (.int (own_held b1 vb2 (((0 : Int64) + (vm.toInt64)) + (vn.toInt64)))), .val (.int (1 : Int32)), .val (.int (0 : Int32))] [(.int (own_held b1 vb2 (((0 : Int64) + (vm.toInt64)) + (vn.toInt64))))])) _
        refine XS.iload X13.here hx rfl (hb hby at_65) rfl ?_
        show Steps p.tables e below (T13.setTop (mkF m 67 #[.val (.int vm), .val (.int vn), .val (.ref b1), .val (.int (own_held b1 vb2 ((0 : Int64) + (vm.toInt64)))), .val (.int (own_held b1 vb2 (((0 : Int64) + (vm.toInt64)) + (vn.toInt64)))), .val (.int (1 : Int32)), .val (.int (0 : Int32))] [(.int (0 : Int32)), (.int (own_held b1 vb2 (((0 : Int64) + (vm.toInt64)) + (vn.toInt64))))])) _
        refine XS.icmpNo X13.here hx rfl (hb hby at_67) rfl (teq ((own_h2 (Or.inr ⟨hc17, rfl⟩) ) : (own_held b1 vb2 (((0 : Int64) + (vm.toInt64)) + (vn.toInt64))) = (0 : Int32))).2 ?_
        show Steps p.tables e below (T13.setTop (mkF m 70 #[.val (.int vm), .val (.int vn), .val (.ref b1), .val (.int (own_held b1 vb2 ((0 : Int64) + (vm.toInt64)))), .val (.int (own_held b1 vb2 (((0 : Int64) + (vm.toInt64)) + (vn.toInt64)))), .val (.int (1 : Int32)), .val (.int (0 : Int32))] [])) _
        refine XS.iconst X13.here hx rfl (hb hby at_70) ?_
        show Steps p.tables e below (T13.setTop (mkF m 71 #[.val (.int vm), .val (.int vn), .val (.ref b1), .val (.int (own_held b1 vb2 ((0 : Int64) + (vm.toInt64)))), .val (.int (own_held b1 vb2 (((0 : Int64) + (vm.toInt64)) + (vn.toInt64)))), .val (.int (1 : Int32)), .val (.int (0 : Int32))] [(.int (1 : Int32))])) _
        refine XS.goto X13.here hx rfl (pc0 := 71) (pc' := 75) rfl (hb hby at_71) (by decide) (by decide) ?_
        show Steps p.tables e below (T13.setTop (mkF m 75 #[.val (.int vm), .val (.int vn), .val (.ref b1), .val (.int (own_held b1 vb2 ((0 : Int64) + (vm.toInt64)))), .val (.int (own_held b1 vb2 (((0 : Int64) + (vm.toInt64)) + (vn.toInt64)))), .val (.int (1 : Int32)), .val (.int (0 : Int32))] [(.int (1 : Int32))])) _
        exact retN X13 hx (t := .boolean) Bd.returns (by simp) (hb hby at_75) hr
      ·
        show Q0 Z vm vn h0 n0 _ T13.heap _
        rw [e13q]
        exact ⟨rfl, N13⟩
  ·
    have pre18 : ∀ t, Steps p.tables e below (T13.setTop (mkF m 47 #[.val (.int vm), .val (.int vn), .val (.ref b1), .val (.int (own_held b1 vb2 ((0 : Int64) + (vm.toInt64)))), .val (.int (own_held b1 vb2 (((0 : Int64) + (vm.toInt64)) + (vn.toInt64)))), .val (.int (0 : Int32)), .unset] [(.int (lcmpW ((vm.toInt64) + (vn.toInt64)) (0 : Int64)))])) t → Steps p.tables e below (s₁.setTop (entryFrame m #[(.int vm), (.int vn)] maxLocals)) t := by
      intro t kt
      refine pre14 t ?_
      show Steps p.tables e below (T13.setTop (mkF m 30 #[.val (.int vm), .val (.int vn), .val (.ref b1), .val (.int (own_held b1 vb2 ((0 : Int64) + (vm.toInt64)))), .val (.int (own_held b1 vb2 (((0 : Int64) + (vm.toInt64)) + (vn.toInt64)))), .unset, .unset] [(.int vm)])) _
      refine XS.ifYes X13.here hx rfl (pc0 := 30) (pc' := 37) rfl (hb hby at_30) rfl ((if0 _ _).trans (feq (hc15 : ¬ (vm = (0 : Int32)))).2) (by decide) (by decide) ?_
      show Steps p.tables e below (T13.setTop (mkF m 37 #[.val (.int vm), .val (.int vn), .val (.ref b1), .val (.int (own_held b1 vb2 ((0 : Int64) + (vm.toInt64)))), .val (.int (own_held b1 vb2 (((0 : Int64) + (vm.toInt64)) + (vn.toInt64)))), .unset, .unset] [])) _
      refine XS.iconst X13.here hx rfl (hb hby at_37) ?_
      show Steps p.tables e below (T13.setTop (mkF m 38 #[.val (.int vm), .val (.int vn), .val (.ref b1), .val (.int (own_held b1 vb2 ((0 : Int64) + (vm.toInt64)))), .val (.int (own_held b1 vb2 (((0 : Int64) + (vm.toInt64)) + (vn.toInt64)))), .unset, .unset] [(.int (0 : Int32))])) _
      refine XS.istore X13.here hx rfl (hb hby at_38) rfl (l' := #[.val (.int vm), .val (.int vn), .val (.ref b1), .val (.int (own_held b1 vb2 ((0 : Int64) + (vm.toInt64)))), .val (.int (own_held b1 vb2 (((0 : Int64) + (vm.toInt64)) + (vn.toInt64)))), .val (.int (0 : Int32)), .unset]) rfl ?_
      show Steps p.tables e below (T13.setTop (mkF m 40 #[.val (.int vm), .val (.int vn), .val (.ref b1), .val (.int (own_held b1 vb2 ((0 : Int64) + (vm.toInt64)))), .val (.int (own_held b1 vb2 (((0 : Int64) + (vm.toInt64)) + (vn.toInt64)))), .val (.int (0 : Int32)), .unset] [])) _
      refine XS.iloadN X13.here hx rfl (hb hby at_40) rfl ?_
      show Steps p.tables e below (T13.setTop (mkF m 41 #[.val (.int vm), .val (.int vn), .val (.ref b1), .val (.int (own_held b1 vb2 ((0 : Int64) + (vm.toInt64)))), .val (.int (own_held b1 vb2 (((0 : Int64) + (vm.toInt64)) + (vn.toInt64)))), .val (.int (0 : Int32)), .unset] [(.int vm)])) _
      refine XS.i2l X13.here hx rfl (hb hby at_41) rfl ?_
      show Steps p.tables e below (T13.setTop (mkF m 42 #[.val (.int vm), .val (.int vn), .val (.ref b1), .val (.int (own_held b1 vb2 ((0 : Int64) + (vm.toInt64)))), .val (.int (own_held b1 vb2 (((0 : Int64) + (vm.toInt64)) + (vn.toInt64)))), .val (.int (0 : Int32)), .unset] [(.long (vm.toInt64))])) _
      refine XS.iloadN X13.here hx rfl (hb hby at_42) rfl ?_
      show Steps p.tables e below (T13.setTop (mkF m 43 #[.val (.int vm), .val (.int vn), .val (.ref b1), .val (.int (own_held b1 vb2 ((0 : Int64) + (vm.toInt64)))), .val (.int (own_held b1 vb2 (((0 : Int64) + (vm.toInt64)) + (vn.toInt64)))), .val (.int (0 : Int32)), .unset] [(.int vn), (.long (vm.toInt64))])) _
      refine XS.i2l X13.here hx rfl (hb hby at_43) rfl ?_
      show Steps p.tables e below (T13.setTop (mkF m 44 #[.val (.int vm), .val (.int vn), .val (.ref b1), .val (.int (own_held b1 vb2 ((0 : Int64) + (vm.toInt64)))), .val (.int (own_held b1 vb2 (((0 : Int64) + (vm.toInt64)) + (vn.toInt64)))), .val (.int (0 : Int32)), .unset] [(.long (vn.toInt64)), (.long (vm.toInt64))])) _
      refine XS.ladd X13.here hx rfl (hb hby at_44) rfl ?_
      show Steps p.tables e below (T13.setTop (mkF m 45 #[.val (.int vm), .val (.int vn), .val (.ref b1), .val (.int (own_held b1 vb2 ((0 : Int64) + (vm.toInt64)))), .val (.int (own_held b1 vb2 (((0 : Int64) + (vm.toInt64)) + (vn.toInt64)))), .val (.int (0 : Int32)), .unset] [(.long ((vm.toInt64) + (vn.toInt64)))])) _
      refine XS.lconst X13.here hx rfl (hb hby at_45) ?_
      show Steps p.tables e below (T13.setTop (mkF m 46 #[.val (.int vm), .val (.int vn), .val (.ref b1), .val (.int (own_held b1 vb2 ((0 : Int64) + (vm.toInt64)))), .val (.int (own_held b1 vb2 (((0 : Int64) + (vm.toInt64)) + (vn.toInt64)))), .val (.int (0 : Int32)), .unset] [(.long (0 : Int64)), (.long ((vm.toInt64) + (vn.toInt64)))])) _
      refine XS.lcmp X13.here hx rfl (hb hby at_46) rfl ?_
      exact kt
    by_cases hc19 : ((vm.toInt64) + (vn.toInt64)) = (0 : Int64)
    ·
      obtain ⟨fs, hr, hrun, hended, hW, hsame⟩ := X13.leave (v := some (.int (1 : Int32))) (fun h => by rw [Bd.returns] at h; cases h)
      refine ⟨_, _, pre18 _ ?_, hrun, hended, _, _, rfl, ?_, ⟨_, rfl⟩, hW, hsame.mono (by decide) (by decide)⟩
      ·
        show Steps p.tables e below (T13.setTop (mkF m 47 #[.val (.int vm), .val (.int vn), .val (.ref b1), .val (.int (own_held b1 vb2 ((0 : Int64) + (vm.toInt64)))), .val (.int (own_held b1 vb2 (((0 : Int64) + (vm.toInt64)) + (vn.toInt64)))), .val (.int (0 : Int32)), .unset] [(.int (lcmpW ((vm.toInt64) + (vn.toInt64)) (0 : Int64)))])) _
        refine XS.ifNo X13.here hx rfl (hb hby at_47) rfl ((if0 _ _).trans (teq (((lw_eq _ _).mpr hc19) : (lcmpW ((vm.toInt64) + (vn.toInt64)) (0 : Int64)) = (0 : Int32))).2) ?_
        show Steps p.tables e below (T13.setTop (mkF m 50 #[.val (.int vm), .val (.int vn), .val (.ref b1), .val (.int (own_held b1 vb2 ((0 : Int64) + (vm.toInt64)))), .val (.int (own_held b1 vb2 (((0 : Int64) + (vm.toInt64)) + (vn.toInt64)))), .val (.int (0 : Int32)), .unset] [])) _
        refine XS.iconst X13.here hx rfl (hb hby at_50) ?_
        show Steps p.tables e below (T13.setTop (mkF m 51 #[.val (.int vm), .val (.int vn), .val (.ref b1), .val (.int (own_held b1 vb2 ((0 : Int64) + (vm.toInt64)))), .val (.int (own_held b1 vb2 (((0 : Int64) + (vm.toInt64)) + (vn.toInt64)))), .val (.int (0 : Int32)), .unset] [(.int (1 : Int32))])) _
        refine XS.goto X13.here hx rfl (pc0 := 51) (pc' := 55) rfl (hb hby at_51) (by decide) (by decide) ?_
        show Steps p.tables e below (T13.setTop (mkF m 55 #[.val (.int vm), .val (.int vn), .val (.ref b1), .val (.int (own_held b1 vb2 ((0 : Int64) + (vm.toInt64)))), .val (.int (own_held b1 vb2 (((0 : Int64) + (vm.toInt64)) + (vn.toInt64)))), .val (.int (0 : Int32)), .unset] [(.int (1 : Int32))])) _
        refine XS.istore X13.here hx rfl (hb hby at_55) rfl (l' := #[.val (.int vm), .val (.int vn), .val (.ref b1), .val (.int (own_held b1 vb2 ((0 : Int64) + (vm.toInt64)))), .val (.int (own_held b1 vb2 (((0 : Int64) + (vm.toInt64)) + (vn.toInt64)))), .val (.int (0 : Int32)), .val (.int (1 : Int32))]) rfl ?_
        show Steps p.tables e below (T13.setTop (mkF m 57 #[.val (.int vm), .val (.int vn), .val (.ref b1), .val (.int (own_held b1 vb2 ((0 : Int64) + (vm.toInt64)))), .val (.int (own_held b1 vb2 (((0 : Int64) + (vm.toInt64)) + (vn.toInt64)))), .val (.int (0 : Int32)), .val (.int (1 : Int32))] [])) _
        refine XS.iloadN X13.here hx rfl (hb hby at_57) rfl ?_
        show Steps p.tables e below (T13.setTop (mkF m 58 #[.val (.int vm), .val (.int vn), .val (.ref b1), .val (.int (own_held b1 vb2 ((0 : Int64) + (vm.toInt64)))), .val (.int (own_held b1 vb2 (((0 : Int64) + (vm.toInt64)) + (vn.toInt64)))), .val (.int (0 : Int32)), .val (.int (1 : Int32))] [(.int (own_held b1 vb2 ((0 : Int64) + (vm.toInt64))))])) _
        refine XS.iload X13.here hx rfl (hb hby at_58) rfl ?_
        show Steps p.tables e below (T13.setTop (mkF m 60 #[.val (.int vm), .val (.int vn), .val (.ref b1), .val (.int (own_held b1 vb2 ((0 : Int64) + (vm.toInt64)))), .val (.int (own_held b1 vb2 (((0 : Int64) + (vm.toInt64)) + (vn.toInt64)))), .val (.int (0 : Int32)), .val (.int (1 : Int32))] [(.int (0 : Int32)), (.int (own_held b1 vb2 ((0 : Int64) + (vm.toInt64))))])) _
        refine XS.icmpNo X13.here hx rfl (hb hby at_60) rfl (teq ((own_h1 (Or.inr ⟨hc15, rfl⟩) ) : (own_held b1 vb2 ((0 : Int64) + (vm.toInt64))) = (0 : Int32))).2 ?_
        show Steps p.tables e below (T13.setTop (mkF m 63 #[.val (.int vm), .val (.int vn), .val (.ref b1), .val (.int (own_held b1 vb2 ((0 : Int64) + (vm.toInt64)))), .val (.int (own_held b1 vb2 (((0 : Int64) + (vm.toInt64)) + (vn.toInt64)))), .val (.int (0 : Int32)), .val (.int (1 : Int32))] [])) _
        refine XS.iload X13.here hx rfl (hb hby at_63) rfl ?_
        show Steps p.tables e below (T13.setTop (mkF m 65 #[.val (.int vm), .val (.int vn), .val (.ref b1), .val (.int (own_held b1 vb2 ((0 : Int64) + (vm.toInt64)))), .val (.int (own_held b1 vb2 (((0 : Int64) + (vm.toInt64)) + (vn.toInt64)))), .val (.int (0 : Int32)), .val (.int (1 : Int32))] [(.int (own_held b1 vb2 (((0 : Int64) + (vm.toInt64)) + (vn.toInt64))))])) _
        refine XS.iload X13.here hx rfl (hb hby at_65) rfl ?_
        show Steps p.tables e below (T13.setTop (mkF m 67 #[.val (.int vm), .val (.int vn), .val (.ref b1), .val (.int (own_held b1 vb2 ((0 : Int64) + (vm.toInt64)))), .val (.int (own_held b1 vb2 (((0 : Int64) + (vm.toInt64)) + (vn.toInt64)))), .val (.int (0 : Int32)), .val (.int (1 : Int32))] [(.int (1 : Int32)), (.int (own_held b1 vb2 (((0 : Int64) + (vm.toInt64)) + (vn.toInt64))))])) _
        refine XS.icmpNo X13.here hx rfl (hb hby at_67) rfl (teq ((own_h2 (Or.inl ⟨hc19, rfl⟩) ) : (own_held b1 vb2 (((0 : Int64) + (vm.toInt64)) + (vn.toInt64))) = (1 : Int32))).2 ?_
        show Steps p.tables e below (T13.setTop (mkF m 70 #[.val (.int vm), .val (.int vn), .val (.ref b1), .val (.int (own_held b1 vb2 ((0 : Int64) + (vm.toInt64)))), .val (.int (own_held b1 vb2 (((0 : Int64) + (vm.toInt64)) + (vn.toInt64)))), .val (.int (0 : Int32)), .val (.int (1 : Int32))] [])) _
        refine XS.iconst X13.here hx rfl (hb hby at_70) ?_
        show Steps p.tables e below (T13.setTop (mkF m 71 #[.val (.int vm), .val (.int vn), .val (.ref b1), .val (.int (own_held b1 vb2 ((0 : Int64) + (vm.toInt64)))), .val (.int (own_held b1 vb2 (((0 : Int64) + (vm.toInt64)) + (vn.toInt64)))), .val (.int (0 : Int32)), .val (.int (1 : Int32))] [(.int (1 : Int32))])) _
        refine XS.goto X13.here hx rfl (pc0 := 71) (pc' := 75) rfl (hb hby at_71) (by decide) (by decide) ?_
        show Steps p.tables e below (T13.setTop (mkF m 75 #[.val (.int vm), .val (.int vn), .val (.ref b1), .val (.int (own_held b1 vb2 ((0 : Int64) + (vm.toInt64)))), .val (.int (own_held b1 vb2 (((0 : Int64) + (vm.toInt64)) + (vn.toInt64)))), .val (.int (0 : Int32)), .val (.int (1 : Int32))] [(.int (1 : Int32))])) _
        exact retN X13 hx (t := .boolean) Bd.returns (by simp) (hb hby at_75) hr
      ·
        show Q0 Z vm vn h0 n0 _ T13.heap _
        rw [e13q]
        exact ⟨rfl, N13⟩
    ·
      obtain ⟨fs, hr, hrun, hended, hW, hsame⟩ := X13.leave (v := some (.int (1 : Int32))) (fun h => by rw [Bd.returns] at h; cases h)
      refine ⟨_, _, pre18 _ ?_, hrun, hended, _, _, rfl, ?_, ⟨_, rfl⟩, hW, hsame.mono (by decide) (by decide)⟩
      ·
        show Steps p.tables e below (T13.setTop (mkF m 47 #[.val (.int vm), .val (.int vn), .val (.ref b1), .val (.int (own_held b1 vb2 ((0 : Int64) + (vm.toInt64)))), .val (.int (own_held b1 vb2 (((0 : Int64) + (vm.toInt64)) + (vn.toInt64)))), .val (.int (0 : Int32)), .unset] [(.int (lcmpW ((vm.toInt64) + (vn.toInt64)) (0 : Int64)))])) _
        refine XS.ifYes X13.here hx rfl (pc0 := 47) (pc' := 54) rfl (hb hby at_47) rfl ((if0 _ _).trans (feq ((fun q => hc19 ((lw_eq _ _).mp q)) : ¬ ((lcmpW ((vm.toInt64) + (vn.toInt64)) (0 : Int64)) = (0 : Int32)))).2) (by decide) (by decide) ?_
        show Steps p.tables e below (T13.setTop (mkF m 54 #[.val (.int vm), .val (.int vn), .val (.ref b1), .val (.int (own_held b1 vb2 ((0 : Int64) + (vm.toInt64)))), .val (.int (own_held b1 vb2 (((0 : Int64) + (vm.toInt64)) + (vn.toInt64)))), .val (.int (0 : Int32)), .unset] [])) _
        refine XS.iconst X13.here hx rfl (hb hby at_54) ?_
        show Steps p.tables e below (T13.setTop (mkF m 55 #[.val (.int vm), .val (.int vn), .val (.ref b1), .val (.int (own_held b1 vb2 ((0 : Int64) + (vm.toInt64)))), .val (.int (own_held b1 vb2 (((0 : Int64) + (vm.toInt64)) + (vn.toInt64)))), .val (.int (0 : Int32)), .unset] [(.int (0 : Int32))])) _
        refine XS.istore X13.here hx rfl (hb hby at_55) rfl (l' := #[.val (.int vm), .val (.int vn), .val (.ref b1), .val (.int (own_held b1 vb2 ((0 : Int64) + (vm.toInt64)))), .val (.int (own_held b1 vb2 (((0 : Int64) + (vm.toInt64)) + (vn.toInt64)))), .val (.int (0 : Int32)), .val (.int (0 : Int32))]) rfl ?_
        show Steps p.tables e below (T13.setTop (mkF m 57 #[.val (.int vm), .val (.int vn), .val (.ref b1), .val (.int (own_held b1 vb2 ((0 : Int64) + (vm.toInt64)))), .val (.int (own_held b1 vb2 (((0 : Int64) + (vm.toInt64)) + (vn.toInt64)))), .val (.int (0 : Int32)), .val (.int (0 : Int32))] [])) _
        refine XS.iloadN X13.here hx rfl (hb hby at_57) rfl ?_
        show Steps p.tables e below (T13.setTop (mkF m 58 #[.val (.int vm), .val (.int vn), .val (.ref b1), .val (.int (own_held b1 vb2 ((0 : Int64) + (vm.toInt64)))), .val (.int (own_held b1 vb2 (((0 : Int64) + (vm.toInt64)) + (vn.toInt64)))), .val (.int (0 : Int32)), .val (.int (0 : Int32))] [(.int (own_held b1 vb2 ((0 : Int64) + (vm.toInt64))))])) _
        refine XS.iload X13.here hx rfl (hb hby at_58) rfl ?_
        show Steps p.tables e below (T13.setTop (mkF m 60 #[.val (.int vm), .val (.int vn), .val (.ref b1), .val (.int (own_held b1 vb2 ((0 : Int64) + (vm.toInt64)))), .val (.int (own_held b1 vb2 (((0 : Int64) + (vm.toInt64)) + (vn.toInt64)))), .val (.int (0 : Int32)), .val (.int (0 : Int32))] [(.int (0 : Int32)), (.int (own_held b1 vb2 ((0 : Int64) + (vm.toInt64))))])) _
        refine XS.icmpNo X13.here hx rfl (hb hby at_60) rfl (teq ((own_h1 (Or.inr ⟨hc15, rfl⟩) ) : (own_held b1 vb2 ((0 : Int64) + (vm.toInt64))) = (0 : Int32))).2 ?_
        show Steps p.tables e below (T13.setTop (mkF m 63 #[.val (.int vm), .val (.int vn), .val (.ref b1), .val (.int (own_held b1 vb2 ((0 : Int64) + (vm.toInt64)))), .val (.int (own_held b1 vb2 (((0 : Int64) + (vm.toInt64)) + (vn.toInt64)))), .val (.int (0 : Int32)), .val (.int (0 : Int32))] [])) _
        refine XS.iload X13.here hx rfl (hb hby at_63) rfl ?_
        show Steps p.tables e below (T13.setTop (mkF m 65 #[.val (.int vm), .val (.int vn), .val (.ref b1), .val (.int (own_held b1 vb2 ((0 : Int64) + (vm.toInt64)))), .val (.int (own_held b1 vb2 (((0 : Int64) + (vm.toInt64)) + (vn.toInt64)))), .val (.int (0 : Int32)), .val (.int (0 : Int32))] [(.int (own_held b1 vb2 (((0 : Int64) + (vm.toInt64)) + (vn.toInt64))))])) _
        refine XS.iload X13.here hx rfl (hb hby at_65) rfl ?_
        show Steps p.tables e below (T13.setTop (mkF m 67 #[.val (.int vm), .val (.int vn), .val (.ref b1), .val (.int (own_held b1 vb2 ((0 : Int64) + (vm.toInt64)))), .val (.int (own_held b1 vb2 (((0 : Int64) + (vm.toInt64)) + (vn.toInt64)))), .val (.int (0 : Int32)), .val (.int (0 : Int32))] [(.int (0 : Int32)), (.int (own_held b1 vb2 (((0 : Int64) + (vm.toInt64)) + (vn.toInt64))))])) _
        refine XS.icmpNo X13.here hx rfl (hb hby at_67) rfl (teq ((own_h2 (Or.inr ⟨hc19, rfl⟩) ) : (own_held b1 vb2 (((0 : Int64) + (vm.toInt64)) + (vn.toInt64))) = (0 : Int32))).2 ?_
        show Steps p.tables e below (T13.setTop (mkF m 70 #[.val (.int vm), .val (.int vn), .val (.ref b1), .val (.int (own_held b1 vb2 ((0 : Int64) + (vm.toInt64)))), .val (.int (own_held b1 vb2 (((0 : Int64) + (vm.toInt64)) + (vn.toInt64)))), .val (.int (0 : Int32)), .val (.int (0 : Int32))] [])) _
        refine XS.iconst X13.here hx rfl (hb hby at_70) ?_
        show Steps p.tables e below (T13.setTop (mkF m 71 #[.val (.int vm), .val (.int vn), .val (.ref b1), .val (.int (own_held b1 vb2 ((0 : Int64) + (vm.toInt64)))), .val (.int (own_held b1 vb2 (((0 : Int64) + (vm.toInt64)) + (vn.toInt64)))), .val (.int (0 : Int32)), .val (.int (0 : Int32))] [(.int (1 : Int32))])) _
        refine XS.goto X13.here hx rfl (pc0 := 71) (pc' := 75) rfl (hb hby at_71) (by decide) (by decide) ?_
        show Steps p.tables e below (T13.setTop (mkF m 75 #[.val (.int vm), .val (.int vn), .val (.ref b1), .val (.int (own_held b1 vb2 ((0 : Int64) + (vm.toInt64)))), .val (.int (own_held b1 vb2 (((0 : Int64) + (vm.toInt64)) + (vn.toInt64)))), .val (.int (0 : Int32)), .val (.int (0 : Int32))] [(.int (1 : Int32))])) _
        exact retN X13 hx (t := .boolean) Bd.returns (by simp) (hb hby at_75) hr
      ·
        show Q0 Z vm vn h0 n0 _ T13.heap _
        rw [e13q]
        exact ⟨rfl, N13⟩
set_option maxRecDepth 65536 in
set_option maxHeartbeats 40000000 in
theorem comes_1 {Post : Tables → Env → Array Value → State → Outcome → State → Prop} (hpost : ∀ tb e args s v u, (limb_1_1.after args s (.returned v) u = true ∧ limb_1_2.after args s (.returned v) u = true ∧ True) → FrameEnd s (.returned v) u (Jvm.fieldLocs frame_1_writes args s ++ Jvm.arrayLocs frame_1_arrays args s ++ Jvm.staticLocs frame_1_statics s) 16 128 → Post tb e args s (.returned v) u) :
    ArmFor flags0 classFile x code maxLocals ret World_1 tables_1 room_1 Calls_1 rest_1 Pre_1 Post := by
  intro l hfl _ _ p e ha hc hk s m args below hf hA hF happ hP
  obtain ⟨hcalls, hrest, hpre⟩ := hP
  obtain ⟨-, -, -, hnamed, -, -, -, hat⟩ := (Spec.applies_iff hf).mp happ
  obtain ⟨hg, hn⟩ := and_e (Cond.before_iff.mp (show (Jvm.Cond.and given_1 narrow_1).before args s = true from hpre))
  obtain ⟨g1a, g1b⟩ := and_e hg
  obtain ⟨g2a, g2b⟩ := and_e g1b
  obtain ⟨w0, w1, rfl⟩ : ∃ w0 w1 : Value, args = #[w0, w1] := by
    have hs : args.size = 2 := by simpa [Cond.value, given_1] using g1a
    obtain ⟨L⟩ := args
    match L, hs with
    | [w0, w1], _ => exact ⟨w0, w1, rfl⟩
  have hw := fun d (hd : d ∈ tables_1) => atoms_spec (ws := Jvm.Cond.code x code maxLocals ret :: tables_1) hat d (List.mem_cons_of_mem _ hd)
  have hfit : Fit s := fun {y c} hc i hi => by
    obtain ⟨ha, rfl⟩ := Array.getElem?_eq_some_iff.mp hc
    have q := List.all_eq_true.mp ((Array.all_eq_true_iff_forall_mem.mp hF) _ (Array.getElem_mem ha)) i (List.mem_range.mpr hi)
    simpa [Array.getElem?_eq_getElem hi] using q
  obtain ⟨vm, ei0⟩ := is_v g2a
  obtain rfl : w0 = (.int vm) := Option.some.inj ei0
  obtain ⟨vn, ei1⟩ := is_v g2b
  obtain rfl : w1 = (.int vn) := Option.some.inj ei1
  obtain ⟨n, o, h1, h2, h3, _, L, rfl, ⟨rfl, N⟩, hq⟩ := rm0 l s _ hw tables_1 vm vn  s.heap s.heap.size (Nat.le_refl _)  p e ha hc hk s m _ below hf ((Spec.applies_iff_loose hf).mp happ).1 ⟨rfl, State.Warmed39.refl s, rfl⟩ trivial
  refine ⟨n, _, h1, h2, h3, hpost _ _ _ _ _ _ ⟨Cond.after_iff.mpr rfl, Cond.after_iff.mpr (eq_i res_at (Term.int_eval (1)) rfl), trivial⟩ ⟨hq.1, hq.2.1, (hq.2.2.sift fun y hy => Or.inr (N y hy)).mono (by decide) (by decide)⟩⟩
theorem main_1_1 : Claimed_1_1 := comes_1 fun _ _ _ _ _ _ h hF => ⟨h.1, hF⟩
theorem main_1_2 : Claimed_1_2 := comes_1 fun _ _ _ _ _ _ h hF => ⟨h.2.1, hF⟩
end Jvm.Pilot.@@N@@
namespace Jvm.Pilot.@@N@@
open Jvm Jvm.ClassFile Sem Op Lib Jvm.Free Jvm.Stand Jvm.Pilot.@@N@@.Jvm.D
/-! MADE BY PROGRAM (witnessworld.py) out of the Statement's table words and the real class files: 10 classes; the members and pool entries that the words name. The judged class is class 1, her method 1. -/
namespace start1
open Jvm.ClassFile
def u (s : String) : CpInfo := .utf8 (stringToUtf16 s)
/-- a pool by its gaps: so many unusable entries, then the entry; so many at the end -/
def gap : Nat → List CpInfo → List CpInfo
  | 0, r => r
  | n + 1, r => .unusable :: gap n r
def poolList (es : List (Nat × CpInfo)) (last : Nat) : List CpInfo := es.foldr (fun e r => gap e.1 (e.2 :: r)) (gap last [])
def pool (es : List (Nat × CpInfo)) (last : Nat) : Array CpInfo := ⟨poolList es last⟩
def fileOf (pool : Array CpInfo) (this : Nat) (attrs : Array Attribute := #[]) (ms : Array MethodInfo := #[]) (fl : Nat := 33) (sup : Nat := 0) (ifs : Array Nat := #[]) (fds : Array FieldInfo := #[]) : ClassFile where
  minorVersion := 0
  majorVersion := 65
  constantPool := pool
  accessFlags := fl
  thisClass := this
  superClass := sup
  interfaces := ifs
  fields := fds
  methods := ms
  attributes := attrs
def plain (name : String) (sup : Option ClassId) : Class where
  name := name
  kind := .ordinary
  loader := none
  accessFlags := 33
  super := sup
  interfaces := #[]
  cf := none
  fields := #[]
  methods := #[]
  instanceTypes := #[]
  staticTypes := #[]
  resolved := #[]
  callSites := []
  init := .initialized
  statics := none
  mirror := none

def pool0 : Array CpInfo := pool [(5, u "<init>"), (0, u "()V"), (1, .class_ 10), (1, u "java/lang/Object")] 113

def k0c0 : Code := { maxStack := 0, maxLocals := 1, code := object_method_1_code, exceptionTable := #[], attributes := #[] }
def k0m0 : Method := { name := "<init>", desc := "()V", sig := { parameters := [], returnType := none }, accessFlags := 1, code := some k0c0 }
/-- java/lang/Object -/
def k0 : Class := { plain "java/lang/Object" none with
  accessFlags := 33
  interfaces := #[]
  cf := some (fileOf pool0 8 #[] #[{ accessFlags := 1, nameIndex := 5, descriptorIndex := 6, attributes := #[] }] 33 0 #[] #[])
  fields := #[]
  methods := #[k0m0]
  instanceTypes := #[]
  staticTypes := #[]
  resolved := Array.replicate 124 none
  statics := none }

def pool1 : Array CpInfo := pool [(2, .class_ 4), (0, .nameAndType 5 6), (0, u "java/lang/Object"), (0, u "<init>"), (0, u "()V"), (0, .class_ 8), (0, u "com/example/weftlock/weftlock/Snapshots"), (0, .methodref 7 3), (0, .methodref 7 11), (0, .nameAndType 12 13), (0, u "countAttempts"), (0, u "(I)V"), (0, .methodref 7 15), (0, .nameAndType 16 17), (0, u "held"), (0, u "()Z"), (0, .class_ 19), (0, u "com/example/weftlock/weftlock/SnapshotsCountAttemptsPinLaw"), (2, u "law"), (0, u "(II)Z")] 3

def k1m0 : Method := { name := "<init>", desc := "()V", sig := { parameters := [], returnType := none }, accessFlags := 1, code := none }
def k1c1 : Code := { maxStack := 4, maxLocals := 7, code := code, exceptionTable := #[], attributes := #[] }
def k1m1 : Method := { name := "law", desc := "(II)Z", sig := { parameters := [.int, .int], returnType := some .boolean }, accessFlags := 9, code := some k1c1 }
/-- com/example/weftlock/weftlock/SnapshotsCountAttemptsPinLaw -/
def k1 : Class := { plain "com/example/weftlock/weftlock/SnapshotsCountAttemptsPinLaw" (some 0) with
  accessFlags := 49
  interfaces := #[]
  cf := some (fileOf pool1 18 #[] #[{ accessFlags := 1, nameIndex := 5, descriptorIndex := 6, attributes := #[] }, { accessFlags := 9, nameIndex := 22, descriptorIndex := 23, attributes := #[] }] 49 2 #[] #[])
  fields := #[]
  methods := #[k1m0, k1m1]
  instanceTypes := #[]
  staticTypes := #[]
  resolved := Array.replicate 27 none
  statics := none }

def pool2 : Array CpInfo := pool [(1, .methodref 2 3), (0, .class_ 4), (0, .nameAndType 5 6), (0, u "java/lang/Object"), (0, u "<init>"), (0, u "()V"), (0, .class_ 8), (0, u "com/example/weftlock/weftlock/DurationHistogram"), (0, .methodref 7 3), (0, .fieldref 11 12), (0, .class_ 13), (0, .nameAndType 14 15), (0, u "com/example/weftlock/weftlock/Snapshots"), (0, u "durations"), (0, u "Lcom/example/weftlock/weftlock/DurationHistogram;"), (5, u "()J"), (9, .fieldref 11 32), (0, .nameAndType 33 34), (0, u "attempts"), (0, u "J"), (0, .fieldref 11 36), (0, .nameAndType 37 34), (0, u "wrong"), (0, .methodref 7 39), (0, .nameAndType 40 21), (0, u "count"), (28, u "countAttempts"), (0, u "(I)V"), (1, u "held"), (0, u "()Z")] 5

def k2c0 : Code := { maxStack := 3, maxLocals := 1, code := prog_83_method_1_code, exceptionTable := #[], attributes := #[] }
def k2m0 : Method := { name := "<init>", desc := "()V", sig := { parameters := [], returnType := none }, accessFlags := 0, code := some k2c0 }
def k2c1 : Code := { maxStack := 5, maxLocals := 2, code := prog_83_method_3_code, exceptionTable := #[], attributes := #[] }
def k2m1 : Method := { name := "countAttempts", desc := "(I)V", sig := { parameters := [.int], returnType := none }, accessFlags := 0, code := some k2c1 }
def k2c2 : Code := { maxStack := 4, maxLocals := 1, code := prog_83_method_5_code, exceptionTable := #[], attributes := #[] }
def k2m2 : Method := { name := "held", desc := "()Z", sig := { parameters := [], returnType := some .boolean }, accessFlags := 0, code := some k2c2 }
/-- com/example/weftlock/weftlock/Snapshots -/
def k2 : Class := { plain "com/example/weftlock/weftlock/Snapshots" (some 0) with
  accessFlags := 32
  interfaces := #[]
  cf := some (fileOf pool2 11 #[] #[{ accessFlags := 0, nameIndex := 5, descriptorIndex := 6, attributes := #[] }, { accessFlags := 0, nameIndex := 69, descriptorIndex := 70, attributes := #[] }, { accessFlags := 0, nameIndex := 72, descriptorIndex := 73, attributes := #[] }] 32 2 #[] #[{ accessFlags := 2, nameIndex := 33, descriptorIndex := 34, attributes := #[] }, { accessFlags := 2, nameIndex := 37, descriptorIndex := 34, attributes := #[] }, { accessFlags := 18, nameIndex := 14, descriptorIndex := 15, attributes := #[] }])
  fields := #[{ name := "attempts", type := .long, accessFlags := 2, slot := 0, constantValue := 0 }, { name := "wrong", type := .long, accessFlags := 2, slot := 1, constantValue := 0 }, { name := "durations", type := (.object "com/example/weftlock/weftlock/DurationHistogram"), accessFlags := 18, slot := 2, constantValue := 0 }]
  methods := #[k2m0, k2m1, k2m2]
  instanceTypes := #[.long, .long, (.object "com/example/weftlock/weftlock/DurationHistogram")]
  staticTypes := #[]
  resolved := Array.replicate 79 none
  statics := none }

def pool3 : Array CpInfo := pool [(1, .class_ 2), (0, u "com/example/weftlock/weftlock/DurationHistogram"), (0, .methodref 4 5), (0, .class_ 6), (0, .nameAndType 7 8), (0, u "java/lang/Object"), (0, u "<init>"), (0, u "()V"), (0, .fieldref 1 10), (0, .nameAndType 11 12), (0, u "counts"), (0, u "[J"), (19, .fieldref 1 33), (0, .nameAndType 34 35), (0, u "count"), (0, u "J"), (2, u "longest"), (37, u "SIGNIFICANT_BITS"), (0, u "I"), (2, u "BUCKETS_PER_OCTAVE"), (6, u "()J")] 19

def k3c0 : Code := { maxStack := 2, maxLocals := 1, code := prog_31_method_1_code, exceptionTable := #[], attributes := #[] }
def k3m0 : Method := { name := "<init>", desc := "()V", sig := { parameters := [], returnType := none }, accessFlags := 0, code := some k3c0 }
def k3c1 : Code := { maxStack := 2, maxLocals := 1, code := prog_31_method_3_code, exceptionTable := #[], attributes := #[] }
def k3m1 : Method := { name := "count", desc := "()J", sig := { parameters := [], returnType := some .long }, accessFlags := 0, code := some k3c1 }
/-- com/example/weftlock/weftlock/DurationHistogram -/
def k3 : Class := { plain "com/example/weftlock/weftlock/DurationHistogram" (some 0) with
  accessFlags := 32
  interfaces := #[]
  cf := some (fileOf pool3 1 #[] #[{ accessFlags := 0, nameIndex := 7, descriptorIndex := 8, attributes := #[] }, { accessFlags := 0, nameIndex := 34, descriptorIndex := 87, attributes := #[] }] 32 4 #[] #[{ accessFlags := 26, nameIndex := 76, descriptorIndex := 77, attributes := #[] }, { accessFlags := 26, nameIndex := 80, descriptorIndex := 77, attributes := #[] }, { accessFlags := 2, nameIndex := 11, descriptorIndex := 12, attributes := #[] }, { accessFlags := 2, nameIndex := 34, descriptorIndex := 35, attributes := #[] }, { accessFlags := 2, nameIndex := 38, descriptorIndex := 35, attributes := #[] }])
  fields := #[{ name := "SIGNIFICANT_BITS", type := .int, accessFlags := 26, slot := 0, constantValue := 0 }, { name := "BUCKETS_PER_OCTAVE", type := .int, accessFlags := 26, slot := 1, constantValue := 0 }, { name := "counts", type := (.array .long), accessFlags := 2, slot := 0, constantValue := 0 }, { name := "count", type := .long, accessFlags := 2, slot := 1, constantValue := 0 }, { name := "longest", type := .long, accessFlags := 2, slot := 2, constantValue := 0 }]
  methods := #[k3m0, k3m1]
  instanceTypes := #[(.array .long), .long, .long]
  staticTypes := #[.int, .int]
  resolved := Array.replicate 107 none
  statics := none }

def pool4 : Array CpInfo := pool [(1, u "java/lang/Cloneable"), (0, .class_ 1), (0, u "java/lang/Object"), (0, .class_ 3)] 3

/-- java/lang/Cloneable -/
def k4 : Class := { plain "java/lang/Cloneable" (some 0) with
  accessFlags := 1537
  interfaces := #[]
  cf := some (fileOf pool4 2 #[] #[] 1537 4 #[] #[])
  fields := #[]
  methods := #[]
  instanceTypes := #[]
  staticTypes := #[]
  resolved := Array.replicate 8 none
  statics := none }

def pool5 : Array CpInfo := pool [(1, u "java/io/Serializable"), (0, .class_ 1), (0, u "java/lang/Object"), (0, .class_ 3)] 3

/-- java/io/Serializable -/
def k5 : Class := { plain "java/io/Serializable" (some 0) with
  accessFlags := 1537
  interfaces := #[]
  cf := some (fileOf pool5 2 #[] #[] 1537 4 #[] #[])
  fields := #[]
  methods := #[]
  instanceTypes := #[]
  staticTypes := #[]
  resolved := Array.replicate 8 none
  statics := none }

/-- the primitive byte -/
def k6 : Class := { plain "byte" none with kind := .primitive 'B', accessFlags := 0x411 }
/-- [B -/
def k7 : Class := { plain "[B" (some 0) with kind := .array 6 .byte, interfaces := #[4, 5], accessFlags := 1041 }

/-- the primitive long -/
def k8 : Class := { plain "long" none with kind := .primitive 'J', accessFlags := 0x411 }
/-- [J -/
def k9 : Class := { plain "[J" (some 0) with kind := .array 8 .long, interfaces := #[4, 5], accessFlags := 1041 }

def heap : Heap := #[]
def classes : Array Class := #[k0, k1, k2, k3, k4, k5, k6, k7, k8, k9]
def interned : List (Array UInt16 × Addr) := []
def slotsUsed : Nat := 0
def theMethod : MethodId := ⟨1, 1⟩
def args0 : Array Value := #[.int 5, .int 7]
def aboutOver (below : List Frame) : State where
  vm := { classes := classes, interned := interned.toArray }
  heap := heap
  slotsUsed := slotsUsed
  threads := #[{ frames := .invoking theMethod args0 :: below }]
def below0 : List Frame := [.native { method := ⟨0, 0⟩, args := #[] }]
def about1 : State := aboutOver below0
def p0 : Program := .bare "" "" ""
def e0 : Env := launch0.env 0 0 0
theorem w_frames : about1.frames = Frame.invoking theMethod args0 :: below0 := rfl
set_option maxRecDepth 65536 in
theorem w_args : argsFit about1.vm theMethod args0 = true := by decide +kernel
set_option maxRecDepth 65536 in
theorem w_heap : heapFits about1 = true := by decide +kernel
set_option maxRecDepth 65536 in
theorem w_runnable : about1.curStatus? = some .runnable := by decide +kernel
set_option maxRecDepth 65536 in
theorem w_alone : about1.alone = true := by decide +kernel
set_option maxRecDepth 65536 in
theorem w_named : about1.methodNamed? x = some theMethod := by decide +kernel
set_option maxRecDepth 65536 in
theorem w_hears : about1.hears theMethod below0 = true := by decide +kernel
set_option maxRecDepth 65536 in
theorem w_ripe : about1.ripe theMethod args0 below0 = true := by decide +kernel
theorem w_running : about1.status = .running := rfl
set_option maxRecDepth 65536 in
theorem w_room : about1.hasRoom e0.platform room_1 = true :=
  launch0.hasRoom_least _ room_1 (by decide +kernel) (by decide +kernel) (by decide +kernel) (by decide +kernel) (by decide +kernel) (by decide +kernel)
theorem allAtoms_all (ts : List Jvm.Cond) (a : Array Jvm.Value) (st : Jvm.State) : (allAtoms ts).before a st = ts.all (fun c => c.before a st) := by
  induction ts with
  | nil => rfl
  | cons c t ih =>
    show (Jvm.Cond.and c (allAtoms t)).before a st = _
    rw [Jvm.Cond.before_and, ih, List.all_cons]
def words1 : List Jvm.Cond := Jvm.Cond.code x code maxLocals ret :: tables_1
/-- a 'code' word, met by the world's own term for the bytes: nothing is compared byte by byte -/
theorem code_word {y : MethodName} {bytes : ByteArray} {mx : Nat} {rt : Option FieldType} {a : Array Value} {s : State} {m : MethodId} {meth : Method} {c : Code} (h1 : s.methodNamed? y = some m) (h2 : s.vm.method? m = some meth) (h3 : meth.code = some c) (h4 : c.code = bytes)
    (h5 : (c.maxLocals == mx && c.exceptionTable.isEmpty && decide (c.maxStack ≤ mostOperands) && decide (meth.sig.returnType = rt) && !meth.locks && decide (parseMethodDescriptor y.desc = some meth.sig)) = true) : (Jvm.Cond.code y bytes mx rt).before a s = true := by
  simp only [Bool.and_eq_true, beq_iff_eq, Bool.not_eq_true', decide_eq_true_eq] at h5
  obtain ⟨⟨⟨⟨⟨g1, g2⟩, g3⟩, g4⟩, g5⟩, g6⟩ := h5
  simp [Cond.before, Cond.holds, Cond.value, h1, h2, h3, h4, g1, g2, g3, g4, g5, g6]
def isCode : Jvm.Cond → Bool
  | .code _ _ _ _ => true
  | _ => false
theorem all_split {L : List Jvm.Cond} {P : Jvm.Cond → Bool} (h1 : L.all (fun c => isCode c || P c) = true) (h2 : ∀ c ∈ L.filter isCode, P c = true) : L.all P = true := by
  refine List.all_eq_true.mpr fun c hc => ?_
  have h := List.all_eq_true.mp h1 c hc
  rcases Bool.eq_false_or_eq_true (isCode c) with hi | hi
  · exact h2 c (List.mem_filter.mpr ⟨hc, hi⟩)
  · simpa [hi] using h
set_option maxRecDepth 65536 in
theorem w_c0 : (Jvm.Cond.code x code maxLocals ret).before args0 about1 = true := code_word (m := ⟨1, 1⟩) (meth := k1m1) (c := k1c1) (by decide +kernel) rfl rfl rfl (by decide +kernel)
set_option maxRecDepth 65536 in
theorem w_c1 : (Jvm.Cond.code ({ cls := "com/example/weftlock/weftlock/Snapshots", name := "<init>", desc := "()V" } : Jvm.MethodName) prog_83_method_1_code (1 : Nat) (Option.none : Option Jvm.ClassFile.FieldType)).before args0 about1 = true := code_word (m := ⟨2, 0⟩) (meth := k2m0) (c := k2c0) (by decide +kernel) rfl rfl rfl (by decide +kernel)
set_option maxRecDepth 65536 in
theorem w_c2 : (Jvm.Cond.code ({ cls := "java/lang/Object", name := "<init>", desc := "()V" } : Jvm.MethodName) object_method_1_code (1 : Nat) (Option.none : Option Jvm.ClassFile.FieldType)).before args0 about1 = true := code_word (m := ⟨0, 0⟩) (meth := k0m0) (c := k0c0) (by decide +kernel) rfl rfl rfl (by decide +kernel)
set_option maxRecDepth 65536 in
theorem w_c3 : (Jvm.Cond.code ({ cls := "com/example/weftlock/weftlock/DurationHistogram", name := "<init>", desc := "()V" } : Jvm.MethodName) prog_31_method_1_code (1 : Nat) (Option.none : Option Jvm.ClassFile.FieldType)).before args0 about1 = true := code_word (m := ⟨3, 0⟩) (meth := k3m0) (c := k3c0) (by decide +kernel) rfl rfl rfl (by decide +kernel)
set_option maxRecDepth 65536 in
theorem w_c4 : (Jvm.Cond.code ({ cls := "com/example/weftlock/weftlock/Snapshots", name := "countAttempts", desc := "(I)V" } : Jvm.MethodName) prog_83_method_3_code (2 : Nat) (Option.none : Option Jvm.ClassFile.FieldType)).before args0 about1 = true := code_word (m := ⟨2, 1⟩) (meth := k2m1) (c := k2c1) (by decide +kernel) rfl rfl rfl (by decide +kernel)
set_option maxRecDepth 65536 in
theorem w_c5 : (Jvm.Cond.code ({ cls := "com/example/weftlock/weftlock/Snapshots", name := "held", desc := "()Z" } : Jvm.MethodName) prog_83_method_5_code (1 : Nat) (Option.some Jvm.ClassFile.FieldType.boolean)).before args0 about1 = true := code_word (m := ⟨2, 2⟩) (meth := k2m2) (c := k2c2) (by decide +kernel) rfl rfl rfl (by decide +kernel)
set_option maxRecDepth 65536 in
theorem w_c6 : (Jvm.Cond.code ({ cls := "com/example/weftlock/weftlock/DurationHistogram", name := "count", desc := "()J" } : Jvm.MethodName) prog_31_method_3_code (1 : Nat) (Option.some Jvm.ClassFile.FieldType.long)).before args0 about1 = true := code_word (m := ⟨3, 1⟩) (meth := k3m1) (c := k3c1) (by decide +kernel) rfl rfl rfl (by decide +kernel)
def codes1 : List Jvm.Cond := [Jvm.Cond.code x code maxLocals ret, Jvm.Cond.code ({ cls := "com/example/weftlock/weftlock/Snapshots", name := "<init>", desc := "()V" } : Jvm.MethodName) prog_83_method_1_code (1 : Nat) (Option.none : Option Jvm.ClassFile.FieldType), Jvm.Cond.code ({ cls := "java/lang/Object", name := "<init>", desc := "()V" } : Jvm.MethodName) object_method_1_code (1 : Nat) (Option.none : Option Jvm.ClassFile.FieldType), Jvm.Cond.code ({ cls := "com/example/weftlock/weftlock/DurationHistogram", name := "<init>", desc := "()V" } : Jvm.MethodName) prog_31_method_1_code (1 : Nat) (Option.none : Option Jvm.ClassFile.FieldType), Jvm.Cond.code ({ cls := "com/example/weftlock/weftlock/Snapshots", name := "countAttempts", desc := "(I)V" } : Jvm.MethodName) prog_83_method_3_code (2 : Nat) (Option.none : Option Jvm.ClassFile.FieldType), Jvm.Cond.code ({ cls := "com/example/weftlock/weftlock/Snapshots", name := "held", desc := "()Z" } : Jvm.MethodName) prog_83_method_5_code (1 : Nat) (Option.some Jvm.ClassFile.FieldType.boolean), Jvm.Cond.code ({ cls := "com/example/weftlock/weftlock/DurationHistogram", name := "count", desc := "()J" } : Jvm.MethodName) prog_31_method_3_code (1 : Nat) (Option.some Jvm.ClassFile.FieldType.long)]
set_option maxRecDepth 65536 in
theorem codes_eq : words1.filter isCode = codes1 := rfl
theorem w_codes : ∀ c ∈ words1.filter isCode, c.before args0 about1 = true := by
  rw [codes_eq]
  intro c hc
  simp only [codes1, List.mem_cons, List.not_mem_nil, or_false] at hc
  rcases hc with rfl | rfl | rfl | rfl | rfl | rfl | rfl
  · exact w_c0
  · exact w_c1
  · exact w_c2
  · exact w_c3
  · exact w_c4
  · exact w_c5
  · exact w_c6
set_option maxRecDepth 65536 in
theorem w_t1 : (words1.take 24).all (fun c => isCode c || c.before args0 about1) = true := by decide +kernel
set_option maxRecDepth 65536 in
theorem w_t2 : (words1.drop 24).all (fun c => isCode c || c.before args0 about1) = true := by decide +kernel
theorem w_tables : (allAtoms (Jvm.Cond.code x code maxLocals ret :: tables_1)).before args0 about1 = true := by
  rw [allAtoms_all]
  show words1.all (fun c => c.before args0 about1) = true
  refine all_split ?_ w_codes
  rw [← List.take_append_drop 24 words1, List.all_append, w_t1, w_t2]
  rfl
set_option maxRecDepth 65536 in
theorem w_case : (Jvm.Cond.and given_1 narrow_1).before args0 about1 = true := by decide +kernel
theorem w_applies : (headSpec (Jvm.Cond.code x code maxLocals ret :: tables_1) room_1).applies x e0.platform about1 = true :=
  (Spec.applies_iff w_frames).mpr ⟨w_running, w_runnable, w_alone, w_named, w_hears, w_ripe, w_room, w_tables⟩
theorem atStart : AtStart classFile x code maxLocals ret World_1 tables_1 room_1 Calls_1 rest_1 Pre_1 launch0 p0 e0 about1 theMethod args0 below0 :=
  ⟨lists_1, trivial, launch0.admits_env _ _ _, launch0.least_env, fairChoices_fair.cas, fairChoices_fair.clock, w_frames, w_args, w_heap, w_applies, trivial, trivial, w_case⟩
end start1
theorem witness_1 : WitnessClaimed_1 := ⟨start1.p0, start1.e0, start1.about1, start1.theMethod, start1.args0, start1.below0, start1.atStart⟩
end Jvm.Pilot.@@N@@
