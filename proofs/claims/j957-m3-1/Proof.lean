import JvmDerived
import JvmDerived.Pilot.@@N@@Statement
import JvmDerived.Pilot.@@N@@Code
set_option linter.unusedVariables false
set_option linter.unusedSimpArgs false
namespace Jvm.Pilot.@@N@@
open Jvm Jvm.ClassFile Sem Op Lib Jvm.Free Jvm.Stand Jvm.LawKit Jvm.RoadKit Bundle Jvm.Pilot.@@N@@.Jvm.D
theorem own_sta_keep {Z : State} {h h' : Heap} {C n d : String} {v : Value} (F : Sta Z h C n d v) (K : Keep h h' []) : Sta Z h' C n d v := by
  obtain ⟨cf, i, k, f, st, cell, h1, h2, h3, h4, h5, r⟩ := F
  exact ⟨cf, i, k, f, st, cell, h1, h2, h3, h4, K.2.1 _ _ h5 nin0, r⟩
theorem d1_0 : decode jdk_29_method_65_code 0 = .ok (.iload_n 0, 1) := by decide +kernel
theorem d1_1 : decode jdk_29_method_65_code 1 = .ok (.iload_n 1, 1) := by decide +kernel
theorem d1_2 : decode jdk_29_method_65_code 2 = .ok (.if_icmp .lt 7, 3) := by decide +kernel
theorem d1_9 : decode jdk_29_method_65_code 9 = .ok (.iload_n 1, 1) := by decide +kernel
theorem d1_10 : decode jdk_29_method_65_code 10 = .ok (.ireturn, 1) := by decide +kernel
theorem d1_5 : decode jdk_29_method_65_code 5 = .ok (.iload_n 0, 1) := by decide +kernel
theorem d1_6 : decode jdk_29_method_65_code 6 = .ok (.goto 4, 3) := by decide +kernel
theorem ef_rm1 (m : MethodId) (x0 : Int32) (x1 : Int32) : entryFrame m #[(.int x0), (.int x1)] 2 = mkF m 0 #[.val (.int x0), .val (.int x1)] [] := by first | (simp [entryFrame, mkF, argsToLocals, Value.category]; done) | rfl
def own_maxi (vx : Int32) (vy : Int32) : Int32 := (if vx < vy then vy else vx)
def Q1 (Z : State) (vx : Int32) (vy : Int32) (h0 : Heap) (n0 : Nat) (v : Option Value) (h : Heap) (L : List Loc) : Prop := v = some (.int (own_maxi vx vy)) ∧ Fr n0 L ∧ h = h0
set_option maxRecDepth 65536 in
set_option maxHeartbeats 40000000 in
theorem rm1 (l : Launch) (Z : State) (a0 : Array Value) (hw : ∀ d ∈ tables_1, d.before a0 Z = true) (ws : List Jvm.Cond) (vx : Int32) (vy : Int32) (h0 : Heap) (n0 : Nat) (Z0 : n0 ≤ h0.size) :
    MetFree l (⟨"java/lang/Math", "max", "(II)I"⟩ : MethodName) (head1 (Jvm.Cond.code (⟨"java/lang/Math", "max", "(II)I"⟩ : MethodName) jdk_29_method_65_code 2 (some .int) :: ws) ({ frames := 0, cells := 0, slots := 0, locals := 0 } : Room)) (fun a U => a = #[(.int vx), (.int vy)] ∧ Z.Warmed39 U.vm ∧ U.heap = h0) (fun _ _ _ _ _ => True) (fun _ U o U' => ∃ v L, o = .returned v ∧ Q1 Z vx vy h0 n0 v U'.heap L ∧ FrameEnd U o U' L ({ frames := 0, cells := 0, slots := 0, locals := 0 } : Room).cells ({ frames := 0, cells := 0, slots := 0, locals := 0 } : Room).slots) := by
  refine MetFree.of_bodySF (Jvm.Free.JP.mathPlain rfl (by decide +kernel)) hisR ?_
  intro p e s m args below meth c s₁ Bd hml0 hP hK
  obtain ⟨rfl, hZ, hh⟩ := hP
  have hx := Bd.exec
  have hby := Bd.bytes
  have hml : c.maxLocals = 2 := hml0
  have hown : s.vm.findClass "java/lang/Math" = some m.cls := findClass_of_methodNamed Bd.named
  have hnm := (name_of_methodNamed Bd.named Bd.method).1
  have X0 : Stand p l e ({ frames := 0, cells := 0, slots := 0, locals := 0 } : Room) s m #[(.int vx), (.int vy)] below meth c s₁ [] 0 0 := Stand.of_body Bd
  have e0 : s₁.heap = h0 := by rw [← hh, Bd.state]; rfl
  have N0 := Fr.nil n0
  have pre0 : ∀ t, Steps p.tables e below (s₁.setTop (mkF m 0 #[.val (.int vx), .val (.int vy)] [])) t → Steps p.tables e below (s₁.setTop (entryFrame m #[(.int vx), (.int vy)] 2)) t := fun t k => castTop (ef_rm1 m vx vy) k
  have pre1 : ∀ t, Steps p.tables e below (s₁.setTop (mkF m 2 #[.val (.int vx), .val (.int vy)] [(.int vy), (.int vx)])) t → Steps p.tables e below (s₁.setTop (entryFrame m #[(.int vx), (.int vy)] 2)) t := by
    intro t kt
    refine pre0 t ?_
    show Steps p.tables e below (s₁.setTop (mkF m 0 #[.val (.int vx), .val (.int vy)] [])) _
    refine XS.iloadN X0.here hx rfl (hb hby d1_0) rfl ?_
    show Steps p.tables e below (s₁.setTop (mkF m 1 #[.val (.int vx), .val (.int vy)] [(.int vx)])) _
    refine XS.iloadN X0.here hx rfl (hb hby d1_1) rfl ?_
    exact kt
  by_cases hc2 : vx < vy
  ·
    obtain ⟨fs, hr, hrun, hended, hW, hsame⟩ := X0.leave (v := some (.int vy)) (fun h => by rw [Bd.returns] at h; cases h)
    refine ⟨_, _, pre1 _ ?_, hrun, hended, _, _, rfl, ?_, ⟨_, rfl⟩, hW, hsame.mono (by decide) (by decide)⟩
    ·
      show Steps p.tables e below (s₁.setTop (mkF m 2 #[.val (.int vx), .val (.int vy)] [(.int vy), (.int vx)])) _
      refine XS.icmpYes X0.here hx rfl (pc0 := 2) (pc' := 9) rfl (hb hby d1_2) rfl (tlt (hc2 : vx < vy)).1 (by decide) (by decide) ?_
      show Steps p.tables e below (s₁.setTop (mkF m 9 #[.val (.int vx), .val (.int vy)] [])) _
      refine XS.iloadN X0.here hx rfl (hb hby d1_9) rfl ?_
      show Steps p.tables e below (s₁.setTop (mkF m 10 #[.val (.int vx), .val (.int vy)] [(.int vy)])) _
      exact retOut X0 hx (t := .int) (i := .ireturn) Bd.returns rfl (Or.inl ⟨rfl, Or.inl rfl, _, rfl⟩) (hb hby d1_10) hr
    ·
      show Q1 Z vx vy h0 n0 _ s₁.heap _
      rw [e0]
      have hv : vy = (own_maxi vx vy) := by rw [own_maxi, if_pos hc2]
      exact ⟨(congrArg (fun z => some (Value.int z)) hv), N0, rfl⟩
  ·
    obtain ⟨fs, hr, hrun, hended, hW, hsame⟩ := X0.leave (v := some (.int vx)) (fun h => by rw [Bd.returns] at h; cases h)
    refine ⟨_, _, pre1 _ ?_, hrun, hended, _, _, rfl, ?_, ⟨_, rfl⟩, hW, hsame.mono (by decide) (by decide)⟩
    ·
      show Steps p.tables e below (s₁.setTop (mkF m 2 #[.val (.int vx), .val (.int vy)] [(.int vy), (.int vx)])) _
      refine XS.icmpNo X0.here hx rfl (hb hby d1_2) rfl (flt (hc2 : ¬ (vx < vy))).1 ?_
      show Steps p.tables e below (s₁.setTop (mkF m 5 #[.val (.int vx), .val (.int vy)] [])) _
      refine XS.iloadN X0.here hx rfl (hb hby d1_5) rfl ?_
      show Steps p.tables e below (s₁.setTop (mkF m 6 #[.val (.int vx), .val (.int vy)] [(.int vx)])) _
      refine XS.goto X0.here hx rfl (pc0 := 6) (pc' := 10) rfl (hb hby d1_6) (by decide) (by decide) ?_
      show Steps p.tables e below (s₁.setTop (mkF m 10 #[.val (.int vx), .val (.int vy)] [(.int vx)])) _
      exact retOut X0 hx (t := .int) (i := .ireturn) Bd.returns rfl (Or.inl ⟨rfl, Or.inl rfl, _, rfl⟩) (hb hby d1_10) hr
    ·
      show Q1 Z vx vy h0 n0 _ s₁.heap _
      rw [e0]
      have hv : vx = (own_maxi vx vy) := by rw [own_maxi, if_neg hc2]
      exact ⟨(congrArg (fun z => some (Value.int z)) hv), N0, rfl⟩
theorem d2_0 : decode jdk_29_method_66_code 0 = .ok (.lload_n 0, 1) := by decide +kernel
theorem d2_1 : decode jdk_29_method_66_code 1 = .ok (.lload_n 2, 1) := by decide +kernel
theorem d2_2 : decode jdk_29_method_66_code 2 = .ok (.lcmp, 1) := by decide +kernel
theorem d2_3 : decode jdk_29_method_66_code 3 = .ok (.ifCond .lt 7, 3) := by decide +kernel
theorem d2_10 : decode jdk_29_method_66_code 10 = .ok (.lload_n 2, 1) := by decide +kernel
theorem d2_11 : decode jdk_29_method_66_code 11 = .ok (.lreturn, 1) := by decide +kernel
theorem d2_6 : decode jdk_29_method_66_code 6 = .ok (.lload_n 0, 1) := by decide +kernel
theorem d2_7 : decode jdk_29_method_66_code 7 = .ok (.goto 4, 3) := by decide +kernel
theorem ef_rm2 (m : MethodId) (x0 : Int64) (x1 : Int64) : entryFrame m #[(.long x0), (.long x1)] 4 = mkF m 0 #[.val (.long x0), .second, .val (.long x1), .second] [] := by first | (simp [entryFrame, mkF, argsToLocals, Value.category]; done) | rfl
def own_maxj (vx : Int64) (vy : Int64) : Int64 := (if vx < vy then vy else vx)
def Q2 (Z : State) (vx : Int64) (vy : Int64) (h0 : Heap) (n0 : Nat) (v : Option Value) (h : Heap) (L : List Loc) : Prop := v = some (.long (own_maxj vx vy)) ∧ Fr n0 L ∧ h = h0
set_option maxRecDepth 65536 in
set_option maxHeartbeats 40000000 in
theorem rm2 (l : Launch) (Z : State) (a0 : Array Value) (hw : ∀ d ∈ tables_1, d.before a0 Z = true) (ws : List Jvm.Cond) (vx : Int64) (vy : Int64) (h0 : Heap) (n0 : Nat) (Z0 : n0 ≤ h0.size) :
    MetFree l (⟨"java/lang/Math", "max", "(JJ)J"⟩ : MethodName) (head1 (Jvm.Cond.code (⟨"java/lang/Math", "max", "(JJ)J"⟩ : MethodName) jdk_29_method_66_code 4 (some .long) :: ws) ({ frames := 0, cells := 0, slots := 0, locals := 0 } : Room)) (fun a U => a = #[(.long vx), (.long vy)] ∧ Z.Warmed39 U.vm ∧ U.heap = h0) (fun _ _ _ _ _ => True) (fun _ U o U' => ∃ v L, o = .returned v ∧ Q2 Z vx vy h0 n0 v U'.heap L ∧ FrameEnd U o U' L ({ frames := 0, cells := 0, slots := 0, locals := 0 } : Room).cells ({ frames := 0, cells := 0, slots := 0, locals := 0 } : Room).slots) := by
  refine MetFree.of_bodySF (Jvm.Free.JP.mathPlain rfl (by decide +kernel)) hisR ?_
  intro p e s m args below meth c s₁ Bd hml0 hP hK
  obtain ⟨rfl, hZ, hh⟩ := hP
  have hx := Bd.exec
  have hby := Bd.bytes
  have hml : c.maxLocals = 4 := hml0
  have hown : s.vm.findClass "java/lang/Math" = some m.cls := findClass_of_methodNamed Bd.named
  have hnm := (name_of_methodNamed Bd.named Bd.method).1
  have X0 : Stand p l e ({ frames := 0, cells := 0, slots := 0, locals := 0 } : Room) s m #[(.long vx), (.long vy)] below meth c s₁ [] 0 0 := Stand.of_body Bd
  have e0 : s₁.heap = h0 := by rw [← hh, Bd.state]; rfl
  have N0 := Fr.nil n0
  have pre0 : ∀ t, Steps p.tables e below (s₁.setTop (mkF m 0 #[.val (.long vx), .second, .val (.long vy), .second] [])) t → Steps p.tables e below (s₁.setTop (entryFrame m #[(.long vx), (.long vy)] 4)) t := fun t k => castTop (ef_rm2 m vx vy) k
  have pre1 : ∀ t, Steps p.tables e below (s₁.setTop (mkF m 3 #[.val (.long vx), .second, .val (.long vy), .second] [(.int (lcmpW vx vy))])) t → Steps p.tables e below (s₁.setTop (entryFrame m #[(.long vx), (.long vy)] 4)) t := by
    intro t kt
    refine pre0 t ?_
    show Steps p.tables e below (s₁.setTop (mkF m 0 #[.val (.long vx), .second, .val (.long vy), .second] [])) _
    refine XS.lloadN X0.here hx rfl (hb hby d2_0) rfl ?_
    show Steps p.tables e below (s₁.setTop (mkF m 1 #[.val (.long vx), .second, .val (.long vy), .second] [(.long vx)])) _
    refine XS.lloadN X0.here hx rfl (hb hby d2_1) rfl ?_
    show Steps p.tables e below (s₁.setTop (mkF m 2 #[.val (.long vx), .second, .val (.long vy), .second] [(.long vy), (.long vx)])) _
    refine XS.lcmp X0.here hx rfl (hb hby d2_2) rfl ?_
    exact kt
  by_cases hc2 : vx < vy
  ·
    obtain ⟨fs, hr, hrun, hended, hW, hsame⟩ := X0.leave (v := some (.long vy)) (fun h => by rw [Bd.returns] at h; cases h)
    refine ⟨_, _, pre1 _ ?_, hrun, hended, _, _, rfl, ?_, ⟨_, rfl⟩, hW, hsame.mono (by decide) (by decide)⟩
    ·
      show Steps p.tables e below (s₁.setTop (mkF m 3 #[.val (.long vx), .second, .val (.long vy), .second] [(.int (lcmpW vx vy))])) _
      refine XS.ifYes X0.here hx rfl (pc0 := 3) (pc' := 10) rfl (hb hby d2_3) rfl ((if0 _ _).trans (tlt (((lw_lt _ _).mpr hc2) : (lcmpW vx vy) < (0 : Int32))).1) (by decide) (by decide) ?_
      show Steps p.tables e below (s₁.setTop (mkF m 10 #[.val (.long vx), .second, .val (.long vy), .second] [])) _
      refine XS.lloadN X0.here hx rfl (hb hby d2_10) rfl ?_
      show Steps p.tables e below (s₁.setTop (mkF m 11 #[.val (.long vx), .second, .val (.long vy), .second] [(.long vy)])) _
      exact retOut X0 hx (t := .long) (i := .lreturn) Bd.returns rfl (Or.inr (Or.inl ⟨rfl, rfl, _, rfl⟩)) (hb hby d2_11) hr
    ·
      show Q2 Z vx vy h0 n0 _ s₁.heap _
      rw [e0]
      have hv : vy = (own_maxj vx vy) := by rw [own_maxj, if_pos hc2]
      exact ⟨(congrArg (fun z => some (Value.long z)) hv), N0, rfl⟩
  ·
    obtain ⟨fs, hr, hrun, hended, hW, hsame⟩ := X0.leave (v := some (.long vx)) (fun h => by rw [Bd.returns] at h; cases h)
    refine ⟨_, _, pre1 _ ?_, hrun, hended, _, _, rfl, ?_, ⟨_, rfl⟩, hW, hsame.mono (by decide) (by decide)⟩
    ·
      show Steps p.tables e below (s₁.setTop (mkF m 3 #[.val (.long vx), .second, .val (.long vy), .second] [(.int (lcmpW vx vy))])) _
      refine XS.ifNo X0.here hx rfl (hb hby d2_3) rfl ((if0 _ _).trans (flt ((fun q => hc2 ((lw_lt _ _).mp q)) : ¬ ((lcmpW vx vy) < (0 : Int32)))).1) ?_
      show Steps p.tables e below (s₁.setTop (mkF m 6 #[.val (.long vx), .second, .val (.long vy), .second] [])) _
      refine XS.lloadN X0.here hx rfl (hb hby d2_6) rfl ?_
      show Steps p.tables e below (s₁.setTop (mkF m 7 #[.val (.long vx), .second, .val (.long vy), .second] [(.long vx)])) _
      refine XS.goto X0.here hx rfl (pc0 := 7) (pc' := 11) rfl (hb hby d2_7) (by decide) (by decide) ?_
      show Steps p.tables e below (s₁.setTop (mkF m 11 #[.val (.long vx), .second, .val (.long vy), .second] [(.long vx)])) _
      exact retOut X0 hx (t := .long) (i := .lreturn) Bd.returns rfl (Or.inr (Or.inl ⟨rfl, rfl, _, rfl⟩)) (hb hby d2_11) hr
    ·
      show Q2 Z vx vy h0 n0 _ s₁.heap _
      rw [e0]
      have hv : vx = (own_maxj vx vy) := by rw [own_maxj, if_neg hc2]
      exact ⟨(congrArg (fun z => some (Value.long z)) hv), N0, rfl⟩
theorem d4_0 : decode jdk_30_method_1_code 0 = .ok (.aload_n 0, 1) := by decide +kernel
theorem d4_1 : decode jdk_30_method_1_code 1 = .ok (.invokespecial 1, 3) := by decide +kernel
theorem d4_4 : decode jdk_30_method_1_code 4 = .ok (.return_, 1) := by decide +kernel
theorem pn_18 : plainName "java/lang/Record" = true := by first | (simp [plainName, overriddenIn]; done) | decide +kernel
theorem ef_rm4 (m : MethodId) (x0 : Addr) : entryFrame m #[(.ref x0)] 1 = mkF m 0 #[.val (.ref x0)] [] := by first | (simp [entryFrame, mkF, argsToLocals, Value.category]; done) | rfl
def Q4 (Z : State) (va : Addr) (h0 : Heap) (n0 : Nat) (v : Option Value) (h : Heap) (L : List Loc) : Prop := v = none ∧ Fr n0 L ∧ h = h0
set_option maxRecDepth 65536 in
set_option maxHeartbeats 40000000 in
theorem rm4 (l : Launch) (Z : State) (a0 : Array Value) (hw : ∀ d ∈ tables_1, d.before a0 Z = true) (ws : List Jvm.Cond) (va : Addr) (h0 : Heap) (n0 : Nat) (Z0 : n0 ≤ h0.size) :
    MetFree l (⟨"java/lang/Record", "<init>", "()V"⟩ : MethodName) (head1 (Jvm.Cond.code (⟨"java/lang/Record", "<init>", "()V"⟩ : MethodName) jdk_30_method_1_code 1 none :: ws) ({ frames := 1, cells := 0, slots := 0, locals := 12 } : Room)) (fun a U => a = #[(.ref va)] ∧ Z.Warmed39 U.vm ∧ U.heap = h0) (fun _ _ _ _ _ => True) (fun _ U o U' => ∃ v L, o = .returned v ∧ Q4 Z va h0 n0 v U'.heap L ∧ FrameEnd U o U' L ({ frames := 1, cells := 0, slots := 0, locals := 12 } : Room).cells ({ frames := 1, cells := 0, slots := 0, locals := 12 } : Room).slots) := by
  refine MetFree.of_bodySF (plainFor_of_name pn_18) hisR ?_
  intro p e s m args below meth c s₁ Bd hml0 hP hK
  obtain ⟨rfl, hZ, hh⟩ := hP
  have hx := Bd.exec
  have hby := Bd.bytes
  have hml : c.maxLocals = 1 := hml0
  have hown : s.vm.findClass "java/lang/Record" = some m.cls := findClass_of_methodNamed Bd.named
  have hnm := (name_of_methodNamed Bd.named Bd.method).1
  have X0 : Stand p l e ({ frames := 1, cells := 0, slots := 0, locals := 12 } : Room) s m #[(.ref va)] below meth c s₁ [] 0 0 := Stand.of_body Bd
  have e0 : s₁.heap = h0 := by rw [← hh, Bd.state]; rfl
  have N0 := Fr.nil n0
  have pre0 : ∀ t, Steps p.tables e below (s₁.setTop (mkF m 0 #[.val (.ref va)] [])) t → Steps p.tables e below (s₁.setTop (entryFrame m #[(.ref va)] 1)) t := fun t k => castTop (ef_rm4 m va) k
  obtain ⟨T1, X1, e1, st1⟩ := initO X0 hx hZ hown (hw _ (List.mem_of_getElem? (i := 20) rfl)) (hw _ (List.mem_of_getElem? (i := 21) rfl)) (hw _ (List.mem_of_getElem? (i := 22) rfl)) e0 (g := (mkF m 1 #[.val (.ref va)] [(.ref va)])) rfl (by rw [hml]; rfl) rfl (hb hby d4_1) (by decide) (W := 0) (by show 2 * 0 + _ ≤ _; exact Nat.le_of_eq rfl) (by decide)
  obtain ⟨fs, hr, hrun, hended, hW, hsame⟩ := X1.leave (v := none) (fun _ => rfl)
  refine ⟨_, _, pre0 _ ?_, hrun, hended, _, _, rfl, ?_, ⟨_, rfl⟩, hW, hsame.mono (by decide) (by decide)⟩
  ·
    show Steps p.tables e below (s₁.setTop (mkF m 0 #[.val (.ref va)] [])) _
    refine XS.aloadN X0.here hx rfl (hb hby d4_0) rfl rfl ?_
    show Steps p.tables e below (s₁.setTop (mkF m 1 #[.val (.ref va)] [(.ref va)])) _
    refine st1 _ ?_
    show Steps p.tables e below (T1.setTop (mkF m 4 #[.val (.ref va)] [])) _
    exact X1.returnOut hx Bd.returns (hb hby d4_4) hr
  ·
    show Q4 Z va h0 n0 _ T1.heap _
    rw [e1]
    exact ⟨rfl, N0, rfl⟩
theorem d9_0 : decode jdk_18_method_1_code 0 = .ok (.aload_n 0, 1) := by decide +kernel
theorem d9_1 : decode jdk_18_method_1_code 1 = .ok (.invokespecial 1, 3) := by decide +kernel
theorem d9_4 : decode jdk_18_method_1_code 4 = .ok (.return_, 1) := by decide +kernel
theorem pn_22 : plainName "java/lang/Number" = true := by first | (simp [plainName, overriddenIn]; done) | decide +kernel
theorem ef_rm9 (m : MethodId) (x0 : Addr) : entryFrame m #[(.ref x0)] 1 = mkF m 0 #[.val (.ref x0)] [] := by first | (simp [entryFrame, mkF, argsToLocals, Value.category]; done) | rfl
def Q9 (Z : State) (va : Addr) (h0 : Heap) (n0 : Nat) (v : Option Value) (h : Heap) (L : List Loc) : Prop := v = none ∧ Fr n0 L ∧ h = h0
set_option maxRecDepth 65536 in
set_option maxHeartbeats 40000000 in
theorem rm9 (l : Launch) (Z : State) (a0 : Array Value) (hw : ∀ d ∈ tables_1, d.before a0 Z = true) (ws : List Jvm.Cond) (va : Addr) (h0 : Heap) (n0 : Nat) (Z0 : n0 ≤ h0.size) :
    MetFree l (⟨"java/lang/Number", "<init>", "()V"⟩ : MethodName) (head1 (Jvm.Cond.code (⟨"java/lang/Number", "<init>", "()V"⟩ : MethodName) jdk_18_method_1_code 1 none :: ws) ({ frames := 1, cells := 0, slots := 0, locals := 12 } : Room)) (fun a U => a = #[(.ref va)] ∧ Z.Warmed39 U.vm ∧ U.heap = h0) (fun _ _ _ _ _ => True) (fun _ U o U' => ∃ v L, o = .returned v ∧ Q9 Z va h0 n0 v U'.heap L ∧ FrameEnd U o U' L ({ frames := 1, cells := 0, slots := 0, locals := 12 } : Room).cells ({ frames := 1, cells := 0, slots := 0, locals := 12 } : Room).slots) := by
  refine MetFree.of_bodySF (plainFor_of_name pn_22) hisR ?_
  intro p e s m args below meth c s₁ Bd hml0 hP hK
  obtain ⟨rfl, hZ, hh⟩ := hP
  have hx := Bd.exec
  have hby := Bd.bytes
  have hml : c.maxLocals = 1 := hml0
  have hown : s.vm.findClass "java/lang/Number" = some m.cls := findClass_of_methodNamed Bd.named
  have hnm := (name_of_methodNamed Bd.named Bd.method).1
  have X0 : Stand p l e ({ frames := 1, cells := 0, slots := 0, locals := 12 } : Room) s m #[(.ref va)] below meth c s₁ [] 0 0 := Stand.of_body Bd
  have e0 : s₁.heap = h0 := by rw [← hh, Bd.state]; rfl
  have N0 := Fr.nil n0
  have pre0 : ∀ t, Steps p.tables e below (s₁.setTop (mkF m 0 #[.val (.ref va)] [])) t → Steps p.tables e below (s₁.setTop (entryFrame m #[(.ref va)] 1)) t := fun t k => castTop (ef_rm9 m va) k
  obtain ⟨T1, X1, e1, st1⟩ := initO X0 hx hZ hown (hw _ (List.mem_of_getElem? (i := 54) rfl)) (hw _ (List.mem_of_getElem? (i := 21) rfl)) (hw _ (List.mem_of_getElem? (i := 22) rfl)) e0 (g := (mkF m 1 #[.val (.ref va)] [(.ref va)])) rfl (by rw [hml]; rfl) rfl (hb hby d9_1) (by decide) (W := 0) (by show 2 * 0 + _ ≤ _; exact Nat.le_of_eq rfl) (by decide)
  obtain ⟨fs, hr, hrun, hended, hW, hsame⟩ := X1.leave (v := none) (fun _ => rfl)
  refine ⟨_, _, pre0 _ ?_, hrun, hended, _, _, rfl, ?_, ⟨_, rfl⟩, hW, hsame.mono (by decide) (by decide)⟩
  ·
    show Steps p.tables e below (s₁.setTop (mkF m 0 #[.val (.ref va)] [])) _
    refine XS.aloadN X0.here hx rfl (hb hby d9_0) rfl rfl ?_
    show Steps p.tables e below (s₁.setTop (mkF m 1 #[.val (.ref va)] [(.ref va)])) _
    refine st1 _ ?_
    show Steps p.tables e below (T1.setTop (mkF m 4 #[.val (.ref va)] [])) _
    exact X1.returnOut hx Bd.returns (hb hby d9_4) hr
  ·
    show Q9 Z va h0 n0 _ T1.heap _
    rw [e1]
    exact ⟨rfl, N0, rfl⟩
theorem d8_0 : decode jdk_33_method_23_code 0 = .ok (.aload_n 0, 1) := by decide +kernel
theorem pd_0 : parseMethodDescriptor "()V" = some ⟨[], none⟩ := by decide +kernel
theorem d8_1 : decode jdk_33_method_23_code 1 = .ok (.invokespecial 202, 3) := by decide +kernel
theorem d8_4 : decode jdk_33_method_23_code 4 = .ok (.aload_n 0, 1) := by decide +kernel
theorem d8_5 : decode jdk_33_method_23_code 5 = .ok (.iload_n 1, 1) := by decide +kernel
theorem d8_6 : decode jdk_33_method_23_code 6 = .ok (.putfield 205, 3) := by decide +kernel
theorem d8_9 : decode jdk_33_method_23_code 9 = .ok (.return_, 1) := by decide +kernel
theorem pn_29 : plainName "java/lang/Integer" = true := by first | (simp [plainName, overriddenIn]; done) | decide +kernel
theorem ef_rm8 (m : MethodId) (x0 : Addr) (x1 : Int32) : entryFrame m #[(.ref x0), (.int x1)] 2 = mkF m 0 #[.val (.ref x0), .val (.int x1)] [] := by first | (simp [entryFrame, mkF, argsToLocals, Value.category]; done) | rfl
def Q8 (Z : State) (va : Addr) (vi : Int32) (h0 : Heap) (n0 : Nat) (v : Option Value) (h : Heap) (L : List Loc) : Prop := v = none ∧ Fr n0 L ∧ Keep h0 h [va] ∧ Exa Z h va "java/lang/Integer"
set_option maxRecDepth 65536 in
set_option maxHeartbeats 40000000 in
theorem rm8 (l : Launch) (Z : State) (a0 : Array Value) (hw : ∀ d ∈ tables_1, d.before a0 Z = true) (ws : List Jvm.Cond) (va : Addr) (vi : Int32) (h0 : Heap) (n0 : Nat) (Z0 : n0 ≤ h0.size) (Ea : Exa Z h0 va "java/lang/Integer") (Fv : Fld Z h0 va "java/lang/Integer" "value" "I" (.int (0 : Int32))) (g_va : n0 ≤ va) :
    MetFree l (⟨"java/lang/Integer", "<init>", "(I)V"⟩ : MethodName) (head1 (Jvm.Cond.code (⟨"java/lang/Integer", "<init>", "(I)V"⟩ : MethodName) jdk_33_method_23_code 2 none :: ws) ({ frames := 2, cells := 0, slots := 0, locals := 24 } : Room)) (fun a U => a = #[(.ref va), (.int vi)] ∧ Z.Warmed39 U.vm ∧ U.heap = h0) (fun _ _ _ _ _ => True) (fun _ U o U' => ∃ v L, o = .returned v ∧ Q8 Z va vi h0 n0 v U'.heap L ∧ FrameEnd U o U' L ({ frames := 2, cells := 0, slots := 0, locals := 24 } : Room).cells ({ frames := 2, cells := 0, slots := 0, locals := 24 } : Room).slots) := by
  refine MetFree.of_bodySF (plainFor_of_name pn_29) hisR ?_
  intro p e s m args below meth c s₁ Bd hml0 hP hK
  obtain ⟨rfl, hZ, hh⟩ := hP
  have hx := Bd.exec
  have hby := Bd.bytes
  have hml : c.maxLocals = 2 := hml0
  have hown : s.vm.findClass "java/lang/Integer" = some m.cls := findClass_of_methodNamed Bd.named
  have hnm := (name_of_methodNamed Bd.named Bd.method).1
  have X0 : Stand p l e ({ frames := 2, cells := 0, slots := 0, locals := 24 } : Room) s m #[(.ref va), (.int vi)] below meth c s₁ [] 0 0 := Stand.of_body Bd
  have e0 : s₁.heap = h0 := by rw [← hh, Bd.state]; rfl
  have N0 := Fr.nil n0
  have pre0 : ∀ t, Steps p.tables e below (s₁.setTop (mkF m 0 #[.val (.ref va), .val (.int vi)] [])) t → Steps p.tables e below (s₁.setTop (entryFrame m #[(.ref va), (.int vi)] 2)) t := fun t k => castTop (ef_rm8 m va vi) k
  obtain ⟨_, _, ⟨T1, L1, k1, n1⟩, -, X1, ⟨Lc1, hQ1, l1, y1, z1⟩, st1⟩ := X0.specialBack hx (y := (⟨"java/lang/Number", "<init>", "()V"⟩ : MethodName)) rfl hown (mvT hZ (hw _ (List.mem_of_getElem? (i := 48) rfl))) (mvT hZ (hw _ (List.mem_of_getElem? (i := 49) rfl))) (mvT hZ (hw _ (List.mem_of_getElem? (i := 53) rfl))) (by decide) (backOf (W := 0) (rm9 l Z a0 hw [] va  h0 n0 Z0 ) hZ (hw _ (List.mem_of_getElem? (i := 53) rfl)) (hw _ (List.mem_of_getElem? (i := 52) rfl)) (by decide) (by decide)) (g := (mkF m 1 #[.val (.ref va), .val (.int vi)] [(.ref va)])) rfl (by rw [hml]; rfl) (Steps.refl _) (a := va) (argsL := []) (rest := []) (lenOf pd_0 rfl) rfl (by show 2 * 0 + _ ≤ _; exact Nat.le_of_eq rfl) (hb hby d8_1) (fun _ _ => ⟨rfl, e0, (by decide : 0 + 0 ≤ _), (by decide : 0 + 0 ≤ _)⟩)
  dsimp only [Pt.U, Pt.locs, Pt.cells, Pt.slots] at X1 l1 y1 z1 st1 hQ1
  subst l1 y1 z1
  obtain ⟨rfl, N1q, e1q⟩ := hQ1
  have N1 := Fr.app N0 N1q
  obtain ⟨T2, h2, X2, e2, W2, st2⟩ := putF X1 hx hZ hown (host := "") (Or.inl (hw _ (List.mem_of_getElem? (i := 55) rfl))) Via.refl e1q Fv Ea (Or.inr ⟨(hw _ (List.mem_of_getElem? (i := 56) rfl)), rfl, hnm⟩) (hw _ (List.mem_of_getElem? (i := 43) rfl)) (ty := .int) (by decide) rfl rfl (g := (mkF m 6 #[.val (.ref va), .val (.int vi)] [(.int vi), (.ref va)])) rfl rfl (hb hby d8_6)
  have Fw2 : Fld Z h2 va "java/lang/Integer" "value" "I" (.int vi) := Fv.same W2
  have c3 : Exa Z h2 va "java/lang/Integer" := Ea.wr W2
  have Z2 : n0 ≤ h2.size := Nat.le_trans Z0 (Keep.of_wr W2).1
  have N2 := Fr.snoc X2 N1 g_va
  have K2 : Keep h0 h2 [va] := (Keep.refl h0 [va]).wr W2 (Or.inl (List.mem_of_getElem? (i := 0) rfl))
  obtain ⟨fs, hr, hrun, hended, hW, hsame⟩ := X2.leave (v := none) (fun _ => rfl)
  refine ⟨_, _, pre0 _ ?_, hrun, hended, _, _, rfl, ?_, ⟨_, rfl⟩, hW, hsame.mono (by decide) (by decide)⟩
  ·
    show Steps p.tables e below (s₁.setTop (mkF m 0 #[.val (.ref va), .val (.int vi)] [])) _
    refine XS.aloadN X0.here hx rfl (hb hby d8_0) rfl rfl ?_
    show Steps p.tables e below (s₁.setTop (mkF m 1 #[.val (.ref va), .val (.int vi)] [(.ref va)])) _
    refine st1.trans ?_
    show Steps p.tables e below (T1.setTop (mkF m 4 #[.val (.ref va), .val (.int vi)] [])) _
    refine XS.aloadN X1.here hx rfl (hb hby d8_4) rfl rfl ?_
    show Steps p.tables e below (T1.setTop (mkF m 5 #[.val (.ref va), .val (.int vi)] [(.ref va)])) _
    refine XS.iloadN X1.here hx rfl (hb hby d8_5) rfl ?_
    show Steps p.tables e below (T1.setTop (mkF m 6 #[.val (.ref va), .val (.int vi)] [(.int vi), (.ref va)])) _
    refine st2 _ ?_
    show Steps p.tables e below (T2.setTop (mkF m 9 #[.val (.ref va), .val (.int vi)] [])) _
    exact X2.returnOut hx Bd.returns (hb hby d8_9) hr
  ·
    show Q8 Z va vi h0 n0 _ T2.heap _
    rw [e2]
    exact ⟨rfl, N2, K2, c3⟩
theorem own_idx {i : Int32} (h1 : ¬ i < (-128 : Int32)) (h2 : ¬ (127 : Int32) < i) : ¬ (i + (128 : Int32)) < 0 ∧ (i + (128 : Int32)) < (256 : Int32) := by
  rw [Int32.lt_iff_toInt_lt] at *
  have a1 : (-128 : Int32).toInt = -128 := rfl
  have a2 : (127 : Int32).toInt = 127 := rfl
  have e : (i + (128 : Int32)).toInt = i.toInt + 128 := by
    rw [Int32.toInt_add]; show (i.toInt + 128).bmod _ = _; rw [Int.bmod_eq_of_le_mul_two] <;> omega
  rw [Int32.lt_iff_toInt_lt, e]
  have a3 : (0 : Int32).toInt = 0 := rfl
  have a4 : (256 : Int32).toInt = 256 := rfl
  omega
theorem d7_0 : decode jdk_33_method_22_code 0 = .ok (.iload_n 0, 1) := by decide +kernel
theorem d7_1 : decode jdk_33_method_22_code 1 = .ok (.bipush (-128), 2) := by decide +kernel
theorem d7_3 : decode jdk_33_method_22_code 3 = .ok (.if_icmp .lt 20, 3) := by decide +kernel
theorem d7_23 : decode jdk_33_method_22_code 23 = .ok (.new 1, 3) := by decide +kernel
theorem d7_26 : decode jdk_33_method_22_code 26 = .ok (.dup, 1) := by decide +kernel
theorem d7_27 : decode jdk_33_method_22_code 27 = .ok (.iload_n 0, 1) := by decide +kernel
theorem pd_1 : parseMethodDescriptor "(I)V" = some ⟨[.int], none⟩ := by decide +kernel
theorem d7_28 : decode jdk_33_method_22_code 28 = .ok (.invokespecial 199, 3) := by decide +kernel
theorem d7_31 : decode jdk_33_method_22_code 31 = .ok (.areturn, 1) := by decide +kernel
theorem d7_6 : decode jdk_33_method_22_code 6 = .ok (.iload_n 0, 1) := by decide +kernel
theorem d7_7 : decode jdk_33_method_22_code 7 = .ok (.getstatic 191, 3) := by decide +kernel
theorem d7_10 : decode jdk_33_method_22_code 10 = .ok (.if_icmp .gt 13, 3) := by decide +kernel
theorem d7_13 : decode jdk_33_method_22_code 13 = .ok (.getstatic 195, 3) := by decide +kernel
theorem d7_16 : decode jdk_33_method_22_code 16 = .ok (.iload_n 0, 1) := by decide +kernel
theorem d7_17 : decode jdk_33_method_22_code 17 = .ok (.sipush 128, 3) := by decide +kernel
theorem d7_20 : decode jdk_33_method_22_code 20 = .ok (.iadd, 1) := by decide +kernel
theorem d7_21 : decode jdk_33_method_22_code 21 = .ok (.aaload, 1) := by decide +kernel
theorem d7_22 : decode jdk_33_method_22_code 22 = .ok (.areturn, 1) := by decide +kernel
theorem ef_rm7 (m : MethodId) (x0 : Int32) : entryFrame m #[(.int x0)] 1 = mkF m 0 #[.val (.int x0)] [] := by first | (simp [entryFrame, mkF, argsToLocals, Value.category]; done) | rfl
def Q7 (Z : State) (vi : Int32) (vc : Addr) (cl : Cell) (h0 : Heap) (n0 : Nat) (v : Option Value) (h : Heap) (L : List Loc) : Prop := (∃ xr : Addr, v = some (.ref xr) ∧ Exa Z h xr "java/lang/Integer") ∧ Fr n0 L ∧ Keep h0 h []
set_option maxRecDepth 65536 in
set_option maxHeartbeats 40000000 in
theorem rm7 (l : Launch) (Z : State) (a0 : Array Value) (hw : ∀ d ∈ tables_1, d.before a0 Z = true) (ws : List Jvm.Cond) (vi : Int32) (vc : Addr) (cl : Cell) (h0 : Heap) (n0 : Nat) (Z0 : n0 ≤ h0.size) (S_high : Sta Z h0 "java/lang/Integer$IntegerCache" "high" "I" (.int (127 : Int32))) (S_cache : Sta Z h0 "java/lang/Integer$IntegerCache" "cache" "[Ljava/lang/Integer;" (.ref vc)) (Arc : Arr Z h0 vc cl (.object "java/lang/Integer")) (hsz : cl.slots.size = (256 : Int32).toNatClampNeg) (hel : ∀ j : Int32, ¬ (j < 0 ∨ cl.slots.size ≤ j.toNatClampNeg) → ∃ x : Addr, cl.slots[j.toNatClampNeg]? = some (.ref x) ∧ Exa Z h0 x "java/lang/Integer") :
    MetFree l (⟨"java/lang/Integer", "valueOf", "(I)Ljava/lang/Integer;"⟩ : MethodName) (head1 (Jvm.Cond.code (⟨"java/lang/Integer", "valueOf", "(I)Ljava/lang/Integer;"⟩ : MethodName) jdk_33_method_22_code 1 (some (.object "java/lang/Integer")) :: ws) ({ frames := 3, cells := 1, slots := 1, locals := 38 } : Room)) (fun a U => a = #[(.int vi)] ∧ Z.Warmed39 U.vm ∧ U.heap = h0) (fun _ _ _ _ _ => True) (fun _ U o U' => ∃ v L, o = .returned v ∧ Q7 Z vi vc cl h0 n0 v U'.heap L ∧ FrameEnd U o U' L ({ frames := 3, cells := 1, slots := 1, locals := 38 } : Room).cells ({ frames := 3, cells := 1, slots := 1, locals := 38 } : Room).slots) := by
  refine MetFree.of_bodySF (plainFor_of_name pn_29) hisR ?_
  intro p e s m args below meth c s₁ Bd hml0 hP hK
  obtain ⟨rfl, hZ, hh⟩ := hP
  have hx := Bd.exec
  have hby := Bd.bytes
  have hml : c.maxLocals = 1 := hml0
  have hown : s.vm.findClass "java/lang/Integer" = some m.cls := findClass_of_methodNamed Bd.named
  have hnm := (name_of_methodNamed Bd.named Bd.method).1
  have X0 : Stand p l e ({ frames := 3, cells := 1, slots := 1, locals := 38 } : Room) s m #[(.int vi)] below meth c s₁ [] 0 0 := Stand.of_body Bd
  have e0 : s₁.heap = h0 := by rw [← hh, Bd.state]; rfl
  have N0 := Fr.nil n0
  have pre0 : ∀ t, Steps p.tables e below (s₁.setTop (mkF m 0 #[.val (.int vi)] [])) t → Steps p.tables e below (s₁.setTop (entryFrame m #[(.int vi)] 1)) t := fun t k => castTop (ef_rm7 m vi) k
  have pre1 : ∀ t, Steps p.tables e below (s₁.setTop (mkF m 3 #[.val (.int vi)] [(.int (-128 : Int32)), (.int vi)])) t → Steps p.tables e below (s₁.setTop (entryFrame m #[(.int vi)] 1)) t := by
    intro t kt
    refine pre0 t ?_
    show Steps p.tables e below (s₁.setTop (mkF m 0 #[.val (.int vi)] [])) _
    refine XS.iloadN X0.here hx rfl (hb hby d7_0) rfl ?_
    show Steps p.tables e below (s₁.setTop (mkF m 1 #[.val (.int vi)] [(.int vi)])) _
    refine XS.bipush X0.here hx rfl (hb hby d7_1) ?_
    exact kt
  by_cases hc2 : vi < (-128 : Int32)
  ·
    obtain ⟨T3, h3, X3, e3, E3, A3, D3, -, st3⟩ := newO X0 hx hZ hown (hw _ (List.mem_of_getElem? (i := 42) rfl)) (hw _ (List.mem_of_getElem? (i := 43) rfl)) (hw _ (List.mem_of_getElem? (i := 38) rfl)) e0 (g := (mkF m 23 #[.val (.int vi)] [])) rfl (hb hby d7_23) (by decide) (by decide)
    obtain ⟨b3, g3⟩ : ∃ z, z = h0.size := ⟨_, rfl⟩
    rw [← g3] at A3 D3 st3
    have g_b3 : n0 ≤ b3 := Nat.le_trans Z0 (Nat.le_of_eq g3.symm)
    have sz_b3 : h0.size ≤ b3 := Nat.le_trans (Keep.refl h0 []).1 (Nat.le_of_eq g3.symm)
    have Z3 : n0 ≤ h3.size := Nat.le_trans Z0 E3.1
    have K3 : Keep h0 h3 [] := (Keep.refl h0 []).ext E3
    have F3_value : Fld Z h3 b3 "java/lang/Integer" "value" "I" (.int (0 : Int32)) := D3 (Or.inr (hw _ (List.mem_of_getElem? (i := 56) rfl))) (ty := .int) (by decide)
    obtain ⟨_, _, ⟨T4, L4, k4, n4⟩, -, X4, ⟨Lc4, hQ4, l4, y4, z4⟩, st4⟩ := X3.specialBack hx (y := (⟨"java/lang/Integer", "<init>", "(I)V"⟩ : MethodName)) rfl hown (mvT hZ (hw _ (List.mem_of_getElem? (i := 44) rfl))) (mvT hZ (hw _ (List.mem_of_getElem? (i := 45) rfl))) (mvT hZ (hw _ (List.mem_of_getElem? (i := 47) rfl))) (by decide) (backOf (W := 1) (rm8 l Z a0 hw [] b3 vi  h3 n0 Z3 A3 F3_value g_b3) hZ (hw _ (List.mem_of_getElem? (i := 47) rfl)) (hw _ (List.mem_of_getElem? (i := 38) rfl)) (by decide) (by decide)) (g := (mkF m 28 #[.val (.int vi)] [(.int vi), (.ref b3), (.ref b3)])) rfl (by rw [hml]; rfl) (Steps.refl _) (a := b3) (argsL := [(.int vi)]) (rest := [(.ref b3)]) (lenOf pd_1 rfl) rfl (by show 2 * 0 + _ ≤ _; exact Nat.le_of_eq rfl) (hb hby d7_28) (fun _ _ => ⟨rfl, e3, (by decide : 1 + 0 ≤ _), (by decide : 1 + 0 ≤ _)⟩)
    dsimp only [Pt.U, Pt.locs, Pt.cells, Pt.slots] at X4 l4 y4 z4 st4 hQ4
    subst l4 y4 z4
    obtain ⟨rfl, N4q, K4q, f4_0⟩ := hQ4
    have N4 := Fr.app N0 N4q
    have Z4 : n0 ≤ T4.heap.size := Nat.le_trans Z3 K4q.1
    have c5 : Exa Z T4.heap b3 "java/lang/Integer" := A3.keep K4q
    have K4 : Keep h0 T4.heap [] := K3.trans K4q (allS (Or.inr sz_b3) all0)
    obtain ⟨fs, hr, hrun, hended, hW, hsame⟩ := X4.leave (v := some (.ref b3)) (fun h => by rw [Bd.returns] at h; cases h)
    refine ⟨_, _, pre1 _ ?_, hrun, hended, _, _, rfl, ?_, ⟨_, rfl⟩, hW, hsame.mono (by decide) (by decide)⟩
    ·
      show Steps p.tables e below (s₁.setTop (mkF m 3 #[.val (.int vi)] [(.int (-128 : Int32)), (.int vi)])) _
      refine XS.icmpYes X0.here hx rfl (pc0 := 3) (pc' := 23) rfl (hb hby d7_3) rfl (tlt (hc2 : vi < (-128 : Int32))).1 (by decide) (by decide) ?_
      show Steps p.tables e below (s₁.setTop (mkF m 23 #[.val (.int vi)] [])) _
      refine st3 _ ?_
      show Steps p.tables e below (T3.setTop (mkF m 26 #[.val (.int vi)] [(.ref b3)])) _
      refine XS.dup X3.here hx rfl (hb hby d7_26) rfl rfl ?_
      show Steps p.tables e below (T3.setTop (mkF m 27 #[.val (.int vi)] [(.ref b3), (.ref b3)])) _
      refine XS.iloadN X3.here hx rfl (hb hby d7_27) rfl ?_
      show Steps p.tables e below (T3.setTop (mkF m 28 #[.val (.int vi)] [(.int vi), (.ref b3), (.ref b3)])) _
      refine st4.trans ?_
      show Steps p.tables e below (T4.setTop (mkF m 31 #[.val (.int vi)] [(.ref b3)])) _
      exact retOut X4 hx (t := (.object "java/lang/Integer")) (i := .areturn) Bd.returns rfl (Or.inr (Or.inr (Or.inr (Or.inr ⟨rfl, rfl, rfl⟩)))) (hb hby d7_31) hr
    ·
      show Q7 Z vi vc cl h0 n0 _ T4.heap _
      exact ⟨⟨_, rfl, f4_0⟩, N4, K4⟩
  ·
    obtain ⟨T6, X6, e6, st6⟩ := getS2 X0 hx hZ hown (host := "") (Or.inl (hw _ (List.mem_of_getElem? (i := 40) rfl))) Via.refl e0 S_high (g := (mkF m 7 #[.val (.int vi)] [(.int vi)])) rfl (hb hby d7_7)
    have pre7 : ∀ t, Steps p.tables e below (T6.setTop (mkF m 10 #[.val (.int vi)] [(.int (127 : Int32)), (.int vi)])) t → Steps p.tables e below (s₁.setTop (entryFrame m #[(.int vi)] 1)) t := by
      intro t kt
      refine pre1 t ?_
      show Steps p.tables e below (s₁.setTop (mkF m 3 #[.val (.int vi)] [(.int (-128 : Int32)), (.int vi)])) _
      refine XS.icmpNo X0.here hx rfl (hb hby d7_3) rfl (flt (hc2 : ¬ (vi < (-128 : Int32)))).1 ?_
      show Steps p.tables e below (s₁.setTop (mkF m 6 #[.val (.int vi)] [])) _
      refine XS.iloadN X0.here hx rfl (hb hby d7_6) rfl ?_
      show Steps p.tables e below (s₁.setTop (mkF m 7 #[.val (.int vi)] [(.int vi)])) _
      refine st6 _ ?_
      exact kt
    by_cases hc8 : (127 : Int32) < vi
    ·
      obtain ⟨T9, h9, X9, e9, E9, A9, D9, -, st9⟩ := newO X6 hx hZ hown (hw _ (List.mem_of_getElem? (i := 42) rfl)) (hw _ (List.mem_of_getElem? (i := 43) rfl)) (hw _ (List.mem_of_getElem? (i := 38) rfl)) e6 (g := (mkF m 23 #[.val (.int vi)] [])) rfl (hb hby d7_23) (by decide) (by decide)
      obtain ⟨b9, g9⟩ : ∃ z, z = h0.size := ⟨_, rfl⟩
      rw [← g9] at A9 D9 st9
      have g_b9 : n0 ≤ b9 := Nat.le_trans Z0 (Nat.le_of_eq g9.symm)
      have sz_b9 : h0.size ≤ b9 := Nat.le_trans (Keep.refl h0 []).1 (Nat.le_of_eq g9.symm)
      have Z9 : n0 ≤ h9.size := Nat.le_trans Z0 E9.1
      have K9 : Keep h0 h9 [] := (Keep.refl h0 []).ext E9
      have F9_value : Fld Z h9 b9 "java/lang/Integer" "value" "I" (.int (0 : Int32)) := D9 (Or.inr (hw _ (List.mem_of_getElem? (i := 56) rfl))) (ty := .int) (by decide)
      obtain ⟨_, _, ⟨T10, L10, k10, n10⟩, -, X10, ⟨Lc10, hQ10, l10, y10, z10⟩, st10⟩ := X9.specialBack hx (y := (⟨"java/lang/Integer", "<init>", "(I)V"⟩ : MethodName)) rfl hown (mvT hZ (hw _ (List.mem_of_getElem? (i := 44) rfl))) (mvT hZ (hw _ (List.mem_of_getElem? (i := 45) rfl))) (mvT hZ (hw _ (List.mem_of_getElem? (i := 47) rfl))) (by decide) (backOf (W := 1) (rm8 l Z a0 hw [] b9 vi  h9 n0 Z9 A9 F9_value g_b9) hZ (hw _ (List.mem_of_getElem? (i := 47) rfl)) (hw _ (List.mem_of_getElem? (i := 38) rfl)) (by decide) (by decide)) (g := (mkF m 28 #[.val (.int vi)] [(.int vi), (.ref b9), (.ref b9)])) rfl (by rw [hml]; rfl) (Steps.refl _) (a := b9) (argsL := [(.int vi)]) (rest := [(.ref b9)]) (lenOf pd_1 rfl) rfl (by show 2 * 0 + _ ≤ _; exact Nat.le_of_eq rfl) (hb hby d7_28) (fun _ _ => ⟨rfl, e9, (by decide : 1 + 0 ≤ _), (by decide : 1 + 0 ≤ _)⟩)
      dsimp only [Pt.U, Pt.locs, Pt.cells, Pt.slots] at X10 l10 y10 z10 st10 hQ10
      subst l10 y10 z10
      obtain ⟨rfl, N10q, K10q, f10_0⟩ := hQ10
      have N10 := Fr.app N0 N10q
      have Z10 : n0 ≤ T10.heap.size := Nat.le_trans Z9 K10q.1
      have c11 : Exa Z T10.heap b9 "java/lang/Integer" := A9.keep K10q
      have K10 : Keep h0 T10.heap [] := K9.trans K10q (allS (Or.inr sz_b9) all0)
      obtain ⟨fs, hr, hrun, hended, hW, hsame⟩ := X10.leave (v := some (.ref b9)) (fun h => by rw [Bd.returns] at h; cases h)
      refine ⟨_, _, pre7 _ ?_, hrun, hended, _, _, rfl, ?_, ⟨_, rfl⟩, hW, hsame.mono (by decide) (by decide)⟩
      ·
        show Steps p.tables e below (T6.setTop (mkF m 10 #[.val (.int vi)] [(.int (127 : Int32)), (.int vi)])) _
        refine XS.icmpYes X6.here hx rfl (pc0 := 10) (pc' := 23) rfl (hb hby d7_10) rfl (tlt (hc8 : (127 : Int32) < vi)).2.2.1 (by decide) (by decide) ?_
        show Steps p.tables e below (T6.setTop (mkF m 23 #[.val (.int vi)] [])) _
        refine st9 _ ?_
        show Steps p.tables e below (T9.setTop (mkF m 26 #[.val (.int vi)] [(.ref b9)])) _
        refine XS.dup X9.here hx rfl (hb hby d7_26) rfl rfl ?_
        show Steps p.tables e below (T9.setTop (mkF m 27 #[.val (.int vi)] [(.ref b9), (.ref b9)])) _
        refine XS.iloadN X9.here hx rfl (hb hby d7_27) rfl ?_
        show Steps p.tables e below (T9.setTop (mkF m 28 #[.val (.int vi)] [(.int vi), (.ref b9), (.ref b9)])) _
        refine st10.trans ?_
        show Steps p.tables e below (T10.setTop (mkF m 31 #[.val (.int vi)] [(.ref b9)])) _
        exact retOut X10 hx (t := (.object "java/lang/Integer")) (i := .areturn) Bd.returns rfl (Or.inr (Or.inr (Or.inr (Or.inr ⟨rfl, rfl, rfl⟩)))) (hb hby d7_31) hr
      ·
        show Q7 Z vi vc cl h0 n0 _ T10.heap _
        exact ⟨⟨_, rfl, f10_0⟩, N10, K10⟩
    ·
      obtain ⟨T12, X12, e12, st12⟩ := getS2 X6 hx hZ hown (host := "") (Or.inl (hw _ (List.mem_of_getElem? (i := 60) rfl))) Via.refl e6 S_cache (g := (mkF m 13 #[.val (.int vi)] [])) rfl (hb hby d7_13)
      have hjr := own_idx hc2 hc8
      have hin : ¬ ((vi + (128 : Int32)) < 0 ∨ cl.slots.size ≤ ((vi + (128 : Int32))).toNatClampNeg) := inb_of hsz hjr
      obtain ⟨xc, hxc, hxe⟩ := hel _ hin
      obtain ⟨fs, hr, hrun, hended, hW, hsame⟩ := X12.leave (v := some (.ref xc)) (fun h => by rw [Bd.returns] at h; cases h)
      refine ⟨_, _, pre7 _ ?_, hrun, hended, _, _, rfl, ?_, ⟨_, rfl⟩, hW, hsame.mono (by decide) (by decide)⟩
      ·
        show Steps p.tables e below (T6.setTop (mkF m 10 #[.val (.int vi)] [(.int (127 : Int32)), (.int vi)])) _
        refine XS.icmpNo X6.here hx rfl (hb hby d7_10) rfl (flt (hc8 : ¬ ((127 : Int32) < vi))).2.2.1 ?_
        show Steps p.tables e below (T6.setTop (mkF m 13 #[.val (.int vi)] [])) _
        refine st12 _ ?_
        show Steps p.tables e below (T12.setTop (mkF m 16 #[.val (.int vi)] [(.ref vc)])) _
        refine XS.iloadN X12.here hx rfl (hb hby d7_16) rfl ?_
        show Steps p.tables e below (T12.setTop (mkF m 17 #[.val (.int vi)] [(.int vi), (.ref vc)])) _
        refine XS.sipush X12.here hx rfl (hb hby d7_17) ?_
        show Steps p.tables e below (T12.setTop (mkF m 20 #[.val (.int vi)] [(.int (128 : Int32)), (.int vi), (.ref vc)])) _
        refine XS.iadd X12.here hx rfl (hb hby d7_20) rfl ?_
        show Steps p.tables e below (T12.setTop (mkF m 21 #[.val (.int vi)] [(.int (vi + (128 : Int32))), (.ref vc)])) _
        refine X12.aaload hx (j := (vi + (128 : Int32))) (v := (.ref xc)) (by rw [e12]; exact Arc.1) (State.isArrayOf_alike hZ.alike Arc.2.1) rfl Arc.2.2 hin hxc (g := (mkF m 21 #[.val (.int vi)] [(.int (vi + (128 : Int32))), (.ref vc)])) rfl rfl (hb hby d7_21) _ ?_
        show Steps p.tables e below (T12.setTop (mkF m 22 #[.val (.int vi)] [(.ref xc)])) _
        exact retOut X12 hx (t := (.object "java/lang/Integer")) (i := .areturn) Bd.returns rfl (Or.inr (Or.inr (Or.inr (Or.inr ⟨rfl, rfl, rfl⟩)))) (hb hby d7_22) hr
      ·
        show Q7 Z vi vc cl h0 n0 _ T12.heap _
        rw [e12]
        exact ⟨⟨_, rfl, hxe⟩, N0, (Keep.refl h0 [])⟩
theorem own_arr_keep {Z : State} {h h' : Heap} {a : Addr} {c : Cell} {ty : FieldType} (A : Arr Z h a c ty) (K : Keep h h' []) : Arr Z h' a c ty := ⟨K.2.1 _ _ A.1 nin0, A.2⟩
theorem own_el_keep {Z : State} {h h' : Heap} {cl : Cell} (H : ∀ j : Int32, ¬ (j < 0 ∨ cl.slots.size ≤ j.toNatClampNeg) → ∃ x : Addr, cl.slots[j.toNatClampNeg]? = some (.ref x) ∧ Exa Z h x "java/lang/Integer") (K : Keep h h' []) : ∀ j : Int32, ¬ (j < 0 ∨ cl.slots.size ≤ j.toNatClampNeg) → ∃ x : Addr, cl.slots[j.toNatClampNeg]? = some (.ref x) ∧ Exa Z h' x "java/lang/Integer" := fun j hj => by
  obtain ⟨x, q, E⟩ := H j hj
  exact ⟨x, q, E.keep K⟩
theorem d3_0 : decode prog_51_method_1_code 0 = .ok (.aload_n 0, 1) := by decide +kernel
theorem d3_1 : decode prog_51_method_1_code 1 = .ok (.invokespecial 1, 3) := by decide +kernel
theorem d3_4 : decode prog_51_method_1_code 4 = .ok (.iload_n 1, 1) := by decide +kernel
theorem d3_5 : decode prog_51_method_1_code 5 = .ok (.iconst 1, 1) := by decide +kernel
theorem d3_6 : decode prog_51_method_1_code 6 = .ok (.if_icmp .lt 16, 3) := by decide +kernel
theorem d3_9 : decode prog_51_method_1_code 9 = .ok (.lload_n 2, 1) := by decide +kernel
theorem d3_10 : decode prog_51_method_1_code 10 = .ok (.lconst 1, 1) := by decide +kernel
theorem d3_11 : decode prog_51_method_1_code 11 = .ok (.lcmp, 1) := by decide +kernel
theorem d3_12 : decode prog_51_method_1_code 12 = .ok (.ifCond .lt 10, 3) := by decide +kernel
theorem d3_15 : decode prog_51_method_1_code 15 = .ok (.lload 4, 2) := by decide +kernel
theorem d3_17 : decode prog_51_method_1_code 17 = .ok (.lconst 0, 1) := by decide +kernel
theorem d3_18 : decode prog_51_method_1_code 18 = .ok (.lcmp, 1) := by decide +kernel
theorem d3_19 : decode prog_51_method_1_code 19 = .ok (.ifCond .ge 20, 3) := by decide +kernel
theorem d3_39 : decode prog_51_method_1_code 39 = .ok (.aload_n 0, 1) := by decide +kernel
theorem d3_40 : decode prog_51_method_1_code 40 = .ok (.iload_n 1, 1) := by decide +kernel
theorem d3_41 : decode prog_51_method_1_code 41 = .ok (.putfield 16, 3) := by decide +kernel
theorem d3_44 : decode prog_51_method_1_code 44 = .ok (.aload_n 0, 1) := by decide +kernel
theorem d3_45 : decode prog_51_method_1_code 45 = .ok (.lload_n 2, 1) := by decide +kernel
theorem d3_46 : decode prog_51_method_1_code 46 = .ok (.putfield 22, 3) := by decide +kernel
theorem d3_49 : decode prog_51_method_1_code 49 = .ok (.aload_n 0, 1) := by decide +kernel
theorem d3_50 : decode prog_51_method_1_code 50 = .ok (.lload 4, 2) := by decide +kernel
theorem d3_52 : decode prog_51_method_1_code 52 = .ok (.putfield 26, 3) := by decide +kernel
theorem d3_55 : decode prog_51_method_1_code 55 = .ok (.return_, 1) := by decide +kernel
theorem pn_70 : plainName "com/example/causeline/causeline/core/MessageId" = true := by first | (simp [plainName, overriddenIn]; done) | decide +kernel
theorem ef_rm3 (m : MethodId) (x0 : Addr) (x1 : Int32) (x2 : Int64) (x3 : Int64) : entryFrame m #[(.ref x0), (.int x1), (.long x2), (.long x3)] 6 = mkF m 0 #[.val (.ref x0), .val (.int x1), .val (.long x2), .second, .val (.long x3), .second] [] := by first | (simp [entryFrame, mkF, argsToLocals, Value.category]; done) | rfl
def Q3 (Z : State) (va : Addr) (vs : Int32) (vq : Int64) (vp : Int64) (h0 : Heap) (n0 : Nat) (v : Option Value) (h : Heap) (L : List Loc) : Prop := v = none ∧ Fr n0 L ∧ Keep h0 h [va] ∧ Exa Z h va "com/example/causeline/causeline/core/MessageId" ∧ Fld Z h va "com/example/causeline/causeline/core/MessageId" "sender" "I" (.int vs) ∧ Fld Z h va "com/example/causeline/causeline/core/MessageId" "sequence" "J" (.long vq) ∧ Fld Z h va "com/example/causeline/causeline/core/MessageId" "position" "J" (.long vp)
set_option maxRecDepth 65536 in
set_option maxHeartbeats 40000000 in
theorem rm3 (l : Launch) (Z : State) (a0 : Array Value) (hw : ∀ d ∈ tables_1, d.before a0 Z = true) (ws : List Jvm.Cond) (va : Addr) (vs : Int32) (vq : Int64) (vp : Int64) (h0 : Heap) (n0 : Nat) (Z0 : n0 ≤ h0.size) (Ea : Exa Z h0 va "com/example/causeline/causeline/core/MessageId") (F_sender : Fld Z h0 va "com/example/causeline/causeline/core/MessageId" "sender" "I" (.int (0 : Int32))) (F_sequence : Fld Z h0 va "com/example/causeline/causeline/core/MessageId" "sequence" "J" (.long (0 : Int64))) (F_position : Fld Z h0 va "com/example/causeline/causeline/core/MessageId" "position" "J" (.long (0 : Int64))) (g_va : n0 ≤ va) (hs : ¬ vs < (1 : Int32)) (hq : ¬ vq < (1 : Int64)) (hp : ¬ vp < (0 : Int64)) :
    MetFree l (⟨"com/example/causeline/causeline/core/MessageId", "<init>", "(IJJ)V"⟩ : MethodName) (head1 (Jvm.Cond.code (⟨"com/example/causeline/causeline/core/MessageId", "<init>", "(IJJ)V"⟩ : MethodName) prog_51_method_1_code 6 none :: ws) ({ frames := 2, cells := 0, slots := 0, locals := 24 } : Room)) (fun a U => a = #[(.ref va), (.int vs), (.long vq), (.long vp)] ∧ Z.Warmed39 U.vm ∧ U.heap = h0) (fun _ _ _ _ _ => True) (fun _ U o U' => ∃ v L, o = .returned v ∧ Q3 Z va vs vq vp h0 n0 v U'.heap L ∧ FrameEnd U o U' L ({ frames := 2, cells := 0, slots := 0, locals := 24 } : Room).cells ({ frames := 2, cells := 0, slots := 0, locals := 24 } : Room).slots) := by
  refine MetFree.of_bodySF (plainFor_of_name pn_70) hisR ?_
  intro p e s m args below meth c s₁ Bd hml0 hP hK
  obtain ⟨rfl, hZ, hh⟩ := hP
  have hx := Bd.exec
  have hby := Bd.bytes
  have hml : c.maxLocals = 6 := hml0
  have hown : s.vm.findClass "com/example/causeline/causeline/core/MessageId" = some m.cls := findClass_of_methodNamed Bd.named
  have hnm := (name_of_methodNamed Bd.named Bd.method).1
  have X0 : Stand p l e ({ frames := 2, cells := 0, slots := 0, locals := 24 } : Room) s m #[(.ref va), (.int vs), (.long vq), (.long vp)] below meth c s₁ [] 0 0 := Stand.of_body Bd
  have e0 : s₁.heap = h0 := by rw [← hh, Bd.state]; rfl
  have N0 := Fr.nil n0
  have pre0 : ∀ t, Steps p.tables e below (s₁.setTop (mkF m 0 #[.val (.ref va), .val (.int vs), .val (.long vq), .second, .val (.long vp), .second] [])) t → Steps p.tables e below (s₁.setTop (entryFrame m #[(.ref va), (.int vs), (.long vq), (.long vp)] 6)) t := fun t k => castTop (ef_rm3 m va vs vq vp) k
  obtain ⟨_, _, ⟨T1, L1, k1, n1⟩, -, X1, ⟨Lc1, hQ1, l1, y1, z1⟩, st1⟩ := X0.specialBack hx (y := (⟨"java/lang/Record", "<init>", "()V"⟩ : MethodName)) rfl hown (mvT hZ (hw _ (List.mem_of_getElem? (i := 15) rfl))) (mvT hZ (hw _ (List.mem_of_getElem? (i := 16) rfl))) (mvT hZ (hw _ (List.mem_of_getElem? (i := 19) rfl))) (by decide) (backOf (W := 0) (rm4 l Z a0 hw [] va  h0 n0 Z0 ) hZ (hw _ (List.mem_of_getElem? (i := 19) rfl)) (hw _ (List.mem_of_getElem? (i := 18) rfl)) (by decide) (by decide)) (g := (mkF m 1 #[.val (.ref va), .val (.int vs), .val (.long vq), .second, .val (.long vp), .second] [(.ref va)])) rfl (by rw [hml]; rfl) (Steps.refl _) (a := va) (argsL := []) (rest := []) (lenOf pd_0 rfl) rfl (by show 2 * 0 + _ ≤ _; exact Nat.le_of_eq rfl) (hb hby d3_1) (fun _ _ => ⟨rfl, e0, (by decide : 0 + 0 ≤ _), (by decide : 0 + 0 ≤ _)⟩)
  dsimp only [Pt.U, Pt.locs, Pt.cells, Pt.slots] at X1 l1 y1 z1 st1 hQ1
  subst l1 y1 z1
  obtain ⟨rfl, N1q, e1q⟩ := hQ1
  have N1 := Fr.app N0 N1q
  obtain ⟨T2, h2, X2, e2, W2, st2⟩ := putF X1 hx hZ hown (host := "") (Or.inl (hw _ (List.mem_of_getElem? (i := 23) rfl))) Via.refl e1q F_sender Ea (Or.inr ⟨(hw _ (List.mem_of_getElem? (i := 24) rfl)), rfl, hnm⟩) (hw _ (List.mem_of_getElem? (i := 10) rfl)) (ty := .int) (by decide) rfl rfl (g := (mkF m 41 #[.val (.ref va), .val (.int vs), .val (.long vq), .second, .val (.long vp), .second] [(.int vs), (.ref va)])) rfl rfl (hb hby d3_41)
  have Fw2 : Fld Z h2 va "com/example/causeline/causeline/core/MessageId" "sender" "I" (.int vs) := F_sender.same W2
  have c3 : Exa Z h2 va "com/example/causeline/causeline/core/MessageId" := Ea.wr W2
  have c4 : Fld Z h2 va "com/example/causeline/causeline/core/MessageId" "sequence" "J" (.long (0 : Int64)) := F_sequence.other W2 (Or.inr (slot_ne (Or.inr (hw _ (List.mem_of_getElem? (i := 26) rfl))) (Or.inr (hw _ (List.mem_of_getElem? (i := 24) rfl))) (by decide) (t := .long) (t' := .int) (by decide) (by decide)))
  have c5 : Fld Z h2 va "com/example/causeline/causeline/core/MessageId" "position" "J" (.long (0 : Int64)) := F_position.other W2 (Or.inr (slot_ne (Or.inr (hw _ (List.mem_of_getElem? (i := 28) rfl))) (Or.inr (hw _ (List.mem_of_getElem? (i := 24) rfl))) (by decide) (t := .long) (t' := .int) (by decide) (by decide)))
  have Z2 : n0 ≤ h2.size := Nat.le_trans Z0 (Keep.of_wr W2).1
  have N2 := Fr.snoc X2 N1 g_va
  have K2 : Keep h0 h2 [va] := (Keep.refl h0 [va]).wr W2 (Or.inl (List.mem_of_getElem? (i := 0) rfl))
  obtain ⟨T6, h6, X6, e6, W6, st6⟩ := putF X2 hx hZ hown (host := "") (Or.inl (hw _ (List.mem_of_getElem? (i := 25) rfl))) Via.refl e2 c4 c3 (Or.inr ⟨(hw _ (List.mem_of_getElem? (i := 26) rfl)), rfl, hnm⟩) (hw _ (List.mem_of_getElem? (i := 10) rfl)) (ty := .long) (by decide) rfl rfl (g := (mkF m 46 #[.val (.ref va), .val (.int vs), .val (.long vq), .second, .val (.long vp), .second] [(.long vq), (.ref va)])) rfl rfl (hb hby d3_46)
  have Fw6 : Fld Z h6 va "com/example/causeline/causeline/core/MessageId" "sequence" "J" (.long vq) := c4.same W6
  have c7 : Exa Z h6 va "com/example/causeline/causeline/core/MessageId" := c3.wr W6
  have c8 : Fld Z h6 va "com/example/causeline/causeline/core/MessageId" "sender" "I" (.int vs) := Fw2.other W6 (Or.inr (slot_ne (Or.inr (hw _ (List.mem_of_getElem? (i := 24) rfl))) (Or.inr (hw _ (List.mem_of_getElem? (i := 26) rfl))) (by decide) (t := .int) (t' := .long) (by decide) (by decide)))
  have c9 : Fld Z h6 va "com/example/causeline/causeline/core/MessageId" "position" "J" (.long (0 : Int64)) := c5.other W6 (Or.inr (slot_ne (Or.inr (hw _ (List.mem_of_getElem? (i := 28) rfl))) (Or.inr (hw _ (List.mem_of_getElem? (i := 26) rfl))) (by decide) (t := .long) (t' := .long) (by decide) (by decide)))
  have Z6 : n0 ≤ h6.size := Nat.le_trans Z2 (Keep.of_wr W6).1
  have N6 := Fr.snoc X6 N2 g_va
  have K6 : Keep h0 h6 [va] := K2.wr W6 (Or.inl (List.mem_of_getElem? (i := 0) rfl))
  obtain ⟨T10, h10, X10, e10, W10, st10⟩ := putF X6 hx hZ hown (host := "") (Or.inl (hw _ (List.mem_of_getElem? (i := 27) rfl))) Via.refl e6 c9 c7 (Or.inr ⟨(hw _ (List.mem_of_getElem? (i := 28) rfl)), rfl, hnm⟩) (hw _ (List.mem_of_getElem? (i := 10) rfl)) (ty := .long) (by decide) rfl rfl (g := (mkF m 52 #[.val (.ref va), .val (.int vs), .val (.long vq), .second, .val (.long vp), .second] [(.long vp), (.ref va)])) rfl rfl (hb hby d3_52)
  have Fw10 : Fld Z h10 va "com/example/causeline/causeline/core/MessageId" "position" "J" (.long vp) := c9.same W10
  have c11 : Exa Z h10 va "com/example/causeline/causeline/core/MessageId" := c7.wr W10
  have c12 : Fld Z h10 va "com/example/causeline/causeline/core/MessageId" "sender" "I" (.int vs) := c8.other W10 (Or.inr (slot_ne (Or.inr (hw _ (List.mem_of_getElem? (i := 24) rfl))) (Or.inr (hw _ (List.mem_of_getElem? (i := 28) rfl))) (by decide) (t := .int) (t' := .long) (by decide) (by decide)))
  have c13 : Fld Z h10 va "com/example/causeline/causeline/core/MessageId" "sequence" "J" (.long vq) := Fw6.other W10 (Or.inr (slot_ne (Or.inr (hw _ (List.mem_of_getElem? (i := 26) rfl))) (Or.inr (hw _ (List.mem_of_getElem? (i := 28) rfl))) (by decide) (t := .long) (t' := .long) (by decide) (by decide)))
  have Z10 : n0 ≤ h10.size := Nat.le_trans Z6 (Keep.of_wr W10).1
  have N10 := Fr.snoc X10 N6 g_va
  have K10 : Keep h0 h10 [va] := K6.wr W10 (Or.inl (List.mem_of_getElem? (i := 0) rfl))
  obtain ⟨fs, hr, hrun, hended, hW, hsame⟩ := X10.leave (v := none) (fun _ => rfl)
  refine ⟨_, _, pre0 _ ?_, hrun, hended, _, _, rfl, ?_, ⟨_, rfl⟩, hW, hsame.mono (by decide) (by decide)⟩
  ·
    show Steps p.tables e below (s₁.setTop (mkF m 0 #[.val (.ref va), .val (.int vs), .val (.long vq), .second, .val (.long vp), .second] [])) _
    refine XS.aloadN X0.here hx rfl (hb hby d3_0) rfl rfl ?_
    show Steps p.tables e below (s₁.setTop (mkF m 1 #[.val (.ref va), .val (.int vs), .val (.long vq), .second, .val (.long vp), .second] [(.ref va)])) _
    refine st1.trans ?_
    show Steps p.tables e below (T1.setTop (mkF m 4 #[.val (.ref va), .val (.int vs), .val (.long vq), .second, .val (.long vp), .second] [])) _
    refine XS.iloadN X1.here hx rfl (hb hby d3_4) rfl ?_
    show Steps p.tables e below (T1.setTop (mkF m 5 #[.val (.ref va), .val (.int vs), .val (.long vq), .second, .val (.long vp), .second] [(.int vs)])) _
    refine XS.iconst X1.here hx rfl (hb hby d3_5) ?_
    show Steps p.tables e below (T1.setTop (mkF m 6 #[.val (.ref va), .val (.int vs), .val (.long vq), .second, .val (.long vp), .second] [(.int (1 : Int32)), (.int vs)])) _
    refine XS.icmpNo X1.here hx rfl (hb hby d3_6) rfl (flt (hs : ¬ (vs < (1 : Int32)))).1 ?_
    show Steps p.tables e below (T1.setTop (mkF m 9 #[.val (.ref va), .val (.int vs), .val (.long vq), .second, .val (.long vp), .second] [])) _
    refine XS.lloadN X1.here hx rfl (hb hby d3_9) rfl ?_
    show Steps p.tables e below (T1.setTop (mkF m 10 #[.val (.ref va), .val (.int vs), .val (.long vq), .second, .val (.long vp), .second] [(.long vq)])) _
    refine XS.lconst X1.here hx rfl (hb hby d3_10) ?_
    show Steps p.tables e below (T1.setTop (mkF m 11 #[.val (.ref va), .val (.int vs), .val (.long vq), .second, .val (.long vp), .second] [(.long (1 : Int64)), (.long vq)])) _
    refine XS.lcmp X1.here hx rfl (hb hby d3_11) rfl ?_
    show Steps p.tables e below (T1.setTop (mkF m 12 #[.val (.ref va), .val (.int vs), .val (.long vq), .second, .val (.long vp), .second] [(.int (lcmpW vq (1 : Int64)))])) _
    refine XS.ifNo X1.here hx rfl (hb hby d3_12) rfl ((if0 _ _).trans (flt ((fun q => hq ((lw_lt _ _).mp q)) : ¬ ((lcmpW vq (1 : Int64)) < (0 : Int32)))).1) ?_
    show Steps p.tables e below (T1.setTop (mkF m 15 #[.val (.ref va), .val (.int vs), .val (.long vq), .second, .val (.long vp), .second] [])) _
    refine XS.lload X1.here hx rfl (hb hby d3_15) rfl ?_
    show Steps p.tables e below (T1.setTop (mkF m 17 #[.val (.ref va), .val (.int vs), .val (.long vq), .second, .val (.long vp), .second] [(.long vp)])) _
    refine XS.lconst X1.here hx rfl (hb hby d3_17) ?_
    show Steps p.tables e below (T1.setTop (mkF m 18 #[.val (.ref va), .val (.int vs), .val (.long vq), .second, .val (.long vp), .second] [(.long (0 : Int64)), (.long vp)])) _
    refine XS.lcmp X1.here hx rfl (hb hby d3_18) rfl ?_
    show Steps p.tables e below (T1.setTop (mkF m 19 #[.val (.ref va), .val (.int vs), .val (.long vq), .second, .val (.long vp), .second] [(.int (lcmpW vp (0 : Int64)))])) _
    refine XS.ifYes X1.here hx rfl (pc0 := 19) (pc' := 39) rfl (hb hby d3_19) rfl ((if0 _ _).trans (flt ((fun q => hp ((lw_lt _ _).mp q)) : ¬ ((lcmpW vp (0 : Int64)) < (0 : Int32)))).2.1) (by decide) (by decide) ?_
    show Steps p.tables e below (T1.setTop (mkF m 39 #[.val (.ref va), .val (.int vs), .val (.long vq), .second, .val (.long vp), .second] [])) _
    refine XS.aloadN X1.here hx rfl (hb hby d3_39) rfl rfl ?_
    show Steps p.tables e below (T1.setTop (mkF m 40 #[.val (.ref va), .val (.int vs), .val (.long vq), .second, .val (.long vp), .second] [(.ref va)])) _
    refine XS.iloadN X1.here hx rfl (hb hby d3_40) rfl ?_
    show Steps p.tables e below (T1.setTop (mkF m 41 #[.val (.ref va), .val (.int vs), .val (.long vq), .second, .val (.long vp), .second] [(.int vs), (.ref va)])) _
    refine st2 _ ?_
    show Steps p.tables e below (T2.setTop (mkF m 44 #[.val (.ref va), .val (.int vs), .val (.long vq), .second, .val (.long vp), .second] [])) _
    refine XS.aloadN X2.here hx rfl (hb hby d3_44) rfl rfl ?_
    show Steps p.tables e below (T2.setTop (mkF m 45 #[.val (.ref va), .val (.int vs), .val (.long vq), .second, .val (.long vp), .second] [(.ref va)])) _
    refine XS.lloadN X2.here hx rfl (hb hby d3_45) rfl ?_
    show Steps p.tables e below (T2.setTop (mkF m 46 #[.val (.ref va), .val (.int vs), .val (.long vq), .second, .val (.long vp), .second] [(.long vq), (.ref va)])) _
    refine st6 _ ?_
    show Steps p.tables e below (T6.setTop (mkF m 49 #[.val (.ref va), .val (.int vs), .val (.long vq), .second, .val (.long vp), .second] [])) _
    refine XS.aloadN X6.here hx rfl (hb hby d3_49) rfl rfl ?_
    show Steps p.tables e below (T6.setTop (mkF m 50 #[.val (.ref va), .val (.int vs), .val (.long vq), .second, .val (.long vp), .second] [(.ref va)])) _
    refine XS.lload X6.here hx rfl (hb hby d3_50) rfl ?_
    show Steps p.tables e below (T6.setTop (mkF m 52 #[.val (.ref va), .val (.int vs), .val (.long vq), .second, .val (.long vp), .second] [(.long vp), (.ref va)])) _
    refine st10 _ ?_
    show Steps p.tables e below (T10.setTop (mkF m 55 #[.val (.ref va), .val (.int vs), .val (.long vq), .second, .val (.long vp), .second] [])) _
    exact X10.returnOut hx Bd.returns (hb hby d3_55) hr
  ·
    show Q3 Z va vs vq vp h0 n0 _ T10.heap _
    rw [e10]
    exact ⟨rfl, N10, K10, c11, c12, c13, Fw10⟩
theorem d6_0 : decode prog_51_method_5_code 0 = .ok (.aload_n 1, 1) := by decide +kernel
theorem d6_1 : decode prog_51_method_5_code 1 = .ok (.instanceof 17, 3) := by decide +kernel
theorem d6_4 : decode prog_51_method_5_code 4 = .ok (.ifCond .eq 47, 3) := by decide +kernel
theorem d6_7 : decode prog_51_method_5_code 7 = .ok (.aload_n 1, 1) := by decide +kernel
theorem d6_8 : decode prog_51_method_5_code 8 = .ok (.checkcast 17, 3) := by decide +kernel
theorem d6_11 : decode prog_51_method_5_code 11 = .ok (.astore_n 2, 1) := by decide +kernel
theorem d6_12 : decode prog_51_method_5_code 12 = .ok (.aload_n 0, 1) := by decide +kernel
theorem d6_13 : decode prog_51_method_5_code 13 = .ok (.getfield 16, 3) := by decide +kernel
theorem d6_16 : decode prog_51_method_5_code 16 = .ok (.aload_n 2, 1) := by decide +kernel
theorem d6_17 : decode prog_51_method_5_code 17 = .ok (.getfield 16, 3) := by decide +kernel
theorem d6_20 : decode prog_51_method_5_code 20 = .ok (.if_icmp .ne 31, 3) := by decide +kernel
theorem d6_23 : decode prog_51_method_5_code 23 = .ok (.aload_n 0, 1) := by decide +kernel
theorem d6_24 : decode prog_51_method_5_code 24 = .ok (.getfield 22, 3) := by decide +kernel
theorem d6_27 : decode prog_51_method_5_code 27 = .ok (.aload_n 2, 1) := by decide +kernel
theorem d6_28 : decode prog_51_method_5_code 28 = .ok (.getfield 22, 3) := by decide +kernel
theorem d6_31 : decode prog_51_method_5_code 31 = .ok (.lcmp, 1) := by decide +kernel
theorem d6_32 : decode prog_51_method_5_code 32 = .ok (.ifCond .ne 19, 3) := by decide +kernel
theorem d6_35 : decode prog_51_method_5_code 35 = .ok (.aload_n 0, 1) := by decide +kernel
theorem d6_36 : decode prog_51_method_5_code 36 = .ok (.getfield 26, 3) := by decide +kernel
theorem d6_39 : decode prog_51_method_5_code 39 = .ok (.aload_n 2, 1) := by decide +kernel
theorem d6_40 : decode prog_51_method_5_code 40 = .ok (.getfield 26, 3) := by decide +kernel
theorem d6_43 : decode prog_51_method_5_code 43 = .ok (.lcmp, 1) := by decide +kernel
theorem d6_44 : decode prog_51_method_5_code 44 = .ok (.ifCond .ne 7, 3) := by decide +kernel
theorem d6_47 : decode prog_51_method_5_code 47 = .ok (.iconst 1, 1) := by decide +kernel
theorem d6_48 : decode prog_51_method_5_code 48 = .ok (.goto 4, 3) := by decide +kernel
theorem d6_52 : decode prog_51_method_5_code 52 = .ok (.ireturn, 1) := by decide +kernel
theorem d6_51 : decode prog_51_method_5_code 51 = .ok (.iconst 0, 1) := by decide +kernel
theorem ef_rm6 (m : MethodId) (x0 : Addr) (x1 : Addr) : entryFrame m #[(.ref x0), (.ref x1)] 3 = mkF m 0 #[.val (.ref x0), .val (.ref x1), .unset] [] := by first | (simp [entryFrame, mkF, argsToLocals, Value.category]; done) | rfl
def own_eq (va : Addr) (vo : Addr) (vs : Int32) (vq : Int64) (vp : Int64) (vs' : Int32) (vq' : Int64) (vp' : Int64) : Int32 := (if vs = vs' then (if vq = vq' then (if vp = vp' then (1 : Int32) else (0 : Int32)) else (0 : Int32)) else (0 : Int32))
def Q6 (Z : State) (va : Addr) (vo : Addr) (vs : Int32) (vq : Int64) (vp : Int64) (vs' : Int32) (vq' : Int64) (vp' : Int64) (h0 : Heap) (n0 : Nat) (v : Option Value) (h : Heap) (L : List Loc) : Prop := v = some (.int (own_eq va vo vs vq vp vs' vq' vp')) ∧ Fr n0 L ∧ h = h0
set_option maxRecDepth 65536 in
set_option maxHeartbeats 40000000 in
theorem rm6 (l : Launch) (Z : State) (a0 : Array Value) (hw : ∀ d ∈ tables_1, d.before a0 Z = true) (ws : List Jvm.Cond) (va : Addr) (vo : Addr) (vs : Int32) (vq : Int64) (vp : Int64) (vs' : Int32) (vq' : Int64) (vp' : Int64) (h0 : Heap) (n0 : Nat) (Z0 : n0 ≤ h0.size) (Ea : Exa Z h0 va "com/example/causeline/causeline/core/MessageId") (Fa_sender : Fld Z h0 va "com/example/causeline/causeline/core/MessageId" "sender" "I" (.int vs)) (Fa_sequence : Fld Z h0 va "com/example/causeline/causeline/core/MessageId" "sequence" "J" (.long vq)) (Fa_position : Fld Z h0 va "com/example/causeline/causeline/core/MessageId" "position" "J" (.long vp)) (Eo : Exa Z h0 vo "com/example/causeline/causeline/core/MessageId") (Fo_sender : Fld Z h0 vo "com/example/causeline/causeline/core/MessageId" "sender" "I" (.int vs')) (Fo_sequence : Fld Z h0 vo "com/example/causeline/causeline/core/MessageId" "sequence" "J" (.long vq')) (Fo_position : Fld Z h0 vo "com/example/causeline/causeline/core/MessageId" "position" "J" (.long vp')) :
    MetFree l (⟨"com/example/causeline/causeline/core/MessageId", "equals", "(Ljava/lang/Object;)Z"⟩ : MethodName) (head1 (Jvm.Cond.code (⟨"com/example/causeline/causeline/core/MessageId", "equals", "(Ljava/lang/Object;)Z"⟩ : MethodName) prog_51_method_5_code 3 (some .boolean) :: ws) ({ frames := 0, cells := 0, slots := 0, locals := 0 } : Room)) (fun a U => a = #[(.ref va), (.ref vo)] ∧ Z.Warmed39 U.vm ∧ U.heap = h0) (fun _ _ _ _ _ => True) (fun _ U o U' => ∃ v L, o = .returned v ∧ Q6 Z va vo vs vq vp vs' vq' vp' h0 n0 v U'.heap L ∧ FrameEnd U o U' L ({ frames := 0, cells := 0, slots := 0, locals := 0 } : Room).cells ({ frames := 0, cells := 0, slots := 0, locals := 0 } : Room).slots) := by
  refine MetFree.of_bodySF (plainFor_of_name pn_70) hisR ?_
  intro p e s m args below meth c s₁ Bd hml0 hP hK
  obtain ⟨rfl, hZ, hh⟩ := hP
  have hx := Bd.exec
  have hby := Bd.bytes
  have hml : c.maxLocals = 3 := hml0
  have hown : s.vm.findClass "com/example/causeline/causeline/core/MessageId" = some m.cls := findClass_of_methodNamed Bd.named
  have hnm := (name_of_methodNamed Bd.named Bd.method).1
  have X0 : Stand p l e ({ frames := 0, cells := 0, slots := 0, locals := 0 } : Room) s m #[(.ref va), (.ref vo)] below meth c s₁ [] 0 0 := Stand.of_body Bd
  have e0 : s₁.heap = h0 := by rw [← hh, Bd.state]; rfl
  have N0 := Fr.nil n0
  have pre0 : ∀ t, Steps p.tables e below (s₁.setTop (mkF m 0 #[.val (.ref va), .val (.ref vo), .unset] [])) t → Steps p.tables e below (s₁.setTop (entryFrame m #[(.ref va), (.ref vo)] 3)) t := fun t k => castTop (ef_rm6 m va vo) k
  obtain ⟨T1, X1, e1, st1⟩ := instY X0 hx hZ hown (hw _ (List.mem_of_getElem? (i := 34) rfl)) e0 (Ins.self Eo) (g := (mkF m 1 #[.val (.ref va), .val (.ref vo), .unset] [(.ref vo)])) rfl rfl (hb hby d6_1)
  obtain ⟨T2, X2, e2, st2⟩ := castY X1 hx hZ hown (hw _ (List.mem_of_getElem? (i := 34) rfl)) e1 (Ins.self Eo) (g := (mkF m 8 #[.val (.ref va), .val (.ref vo), .unset] [(.ref vo)])) rfl rfl (hb hby d6_8)
  obtain ⟨T3, X3, e3, st3⟩ := getF X2 hx hZ hown (host := "") (Or.inl (hw _ (List.mem_of_getElem? (i := 23) rfl))) Via.refl e2 Fa_sender (g := (mkF m 13 #[.val (.ref va), .val (.ref vo), .val (.ref vo)] [(.ref va)])) rfl rfl (hb hby d6_13)
  obtain ⟨T4, X4, e4, st4⟩ := getF X3 hx hZ hown (host := "") (Or.inl (hw _ (List.mem_of_getElem? (i := 23) rfl))) Via.refl e3 Fo_sender (g := (mkF m 17 #[.val (.ref va), .val (.ref vo), .val (.ref vo)] [(.ref vo), (.int vs)])) rfl rfl (hb hby d6_17)
  have pre5 : ∀ t, Steps p.tables e below (T4.setTop (mkF m 20 #[.val (.ref va), .val (.ref vo), .val (.ref vo)] [(.int vs'), (.int vs)])) t → Steps p.tables e below (s₁.setTop (entryFrame m #[(.ref va), (.ref vo)] 3)) t := by
    intro t kt
    refine pre0 t ?_
    show Steps p.tables e below (s₁.setTop (mkF m 0 #[.val (.ref va), .val (.ref vo), .unset] [])) _
    refine XS.aloadN X0.here hx rfl (hb hby d6_0) rfl rfl ?_
    show Steps p.tables e below (s₁.setTop (mkF m 1 #[.val (.ref va), .val (.ref vo), .unset] [(.ref vo)])) _
    refine st1 _ ?_
    show Steps p.tables e below (T1.setTop (mkF m 4 #[.val (.ref va), .val (.ref vo), .unset] [(.int (1 : Int32))])) _
    refine XS.ifNo X1.here hx rfl (hb hby d6_4) rfl ((if0 _ _).trans (feq ((by decide) : ¬ ((1 : Int32) = (0 : Int32)))).1) ?_
    show Steps p.tables e below (T1.setTop (mkF m 7 #[.val (.ref va), .val (.ref vo), .unset] [])) _
    refine XS.aloadN X1.here hx rfl (hb hby d6_7) rfl rfl ?_
    show Steps p.tables e below (T1.setTop (mkF m 8 #[.val (.ref va), .val (.ref vo), .unset] [(.ref vo)])) _
    refine st2 _ ?_
    show Steps p.tables e below (T2.setTop (mkF m 11 #[.val (.ref va), .val (.ref vo), .unset] [(.ref vo)])) _
    refine XS.astoreN X2.here hx rfl (hb hby d6_11) rfl rfl (l' := #[.val (.ref va), .val (.ref vo), .val (.ref vo)]) rfl ?_
    show Steps p.tables e below (T2.setTop (mkF m 12 #[.val (.ref va), .val (.ref vo), .val (.ref vo)] [])) _
    refine XS.aloadN X2.here hx rfl (hb hby d6_12) rfl rfl ?_
    show Steps p.tables e below (T2.setTop (mkF m 13 #[.val (.ref va), .val (.ref vo), .val (.ref vo)] [(.ref va)])) _
    refine st3 _ ?_
    show Steps p.tables e below (T3.setTop (mkF m 16 #[.val (.ref va), .val (.ref vo), .val (.ref vo)] [(.int vs)])) _
    refine XS.aloadN X3.here hx rfl (hb hby d6_16) rfl rfl ?_
    show Steps p.tables e below (T3.setTop (mkF m 17 #[.val (.ref va), .val (.ref vo), .val (.ref vo)] [(.ref vo), (.int vs)])) _
    refine st4 _ ?_
    exact kt
  by_cases hc6 : vs = vs'
  ·
    obtain ⟨T7, X7, e7, st7⟩ := getF X4 hx hZ hown (host := "") (Or.inl (hw _ (List.mem_of_getElem? (i := 25) rfl))) Via.refl e4 Fa_sequence (g := (mkF m 24 #[.val (.ref va), .val (.ref vo), .val (.ref vo)] [(.ref va)])) rfl rfl (hb hby d6_24)
    obtain ⟨T8, X8, e8, st8⟩ := getF X7 hx hZ hown (host := "") (Or.inl (hw _ (List.mem_of_getElem? (i := 25) rfl))) Via.refl e7 Fo_sequence (g := (mkF m 28 #[.val (.ref va), .val (.ref vo), .val (.ref vo)] [(.ref vo), (.long vq)])) rfl rfl (hb hby d6_28)
    have pre9 : ∀ t, Steps p.tables e below (T8.setTop (mkF m 32 #[.val (.ref va), .val (.ref vo), .val (.ref vo)] [(.int (lcmpW vq vq'))])) t → Steps p.tables e below (s₁.setTop (entryFrame m #[(.ref va), (.ref vo)] 3)) t := by
      intro t kt
      refine pre5 t ?_
      show Steps p.tables e below (T4.setTop (mkF m 20 #[.val (.ref va), .val (.ref vo), .val (.ref vo)] [(.int vs'), (.int vs)])) _
      refine XS.icmpNo X4.here hx rfl (hb hby d6_20) rfl (teq (hc6 : vs = vs')).2 ?_
      show Steps p.tables e below (T4.setTop (mkF m 23 #[.val (.ref va), .val (.ref vo), .val (.ref vo)] [])) _
      refine XS.aloadN X4.here hx rfl (hb hby d6_23) rfl rfl ?_
      show Steps p.tables e below (T4.setTop (mkF m 24 #[.val (.ref va), .val (.ref vo), .val (.ref vo)] [(.ref va)])) _
      refine st7 _ ?_
      show Steps p.tables e below (T7.setTop (mkF m 27 #[.val (.ref va), .val (.ref vo), .val (.ref vo)] [(.long vq)])) _
      refine XS.aloadN X7.here hx rfl (hb hby d6_27) rfl rfl ?_
      show Steps p.tables e below (T7.setTop (mkF m 28 #[.val (.ref va), .val (.ref vo), .val (.ref vo)] [(.ref vo), (.long vq)])) _
      refine st8 _ ?_
      show Steps p.tables e below (T8.setTop (mkF m 31 #[.val (.ref va), .val (.ref vo), .val (.ref vo)] [(.long vq'), (.long vq)])) _
      refine XS.lcmp X8.here hx rfl (hb hby d6_31) rfl ?_
      exact kt
    by_cases hc10 : vq = vq'
    ·
      obtain ⟨T11, X11, e11, st11⟩ := getF X8 hx hZ hown (host := "") (Or.inl (hw _ (List.mem_of_getElem? (i := 27) rfl))) Via.refl e8 Fa_position (g := (mkF m 36 #[.val (.ref va), .val (.ref vo), .val (.ref vo)] [(.ref va)])) rfl rfl (hb hby d6_36)
      obtain ⟨T12, X12, e12, st12⟩ := getF X11 hx hZ hown (host := "") (Or.inl (hw _ (List.mem_of_getElem? (i := 27) rfl))) Via.refl e11 Fo_position (g := (mkF m 40 #[.val (.ref va), .val (.ref vo), .val (.ref vo)] [(.ref vo), (.long vp)])) rfl rfl (hb hby d6_40)
      have pre13 : ∀ t, Steps p.tables e below (T12.setTop (mkF m 44 #[.val (.ref va), .val (.ref vo), .val (.ref vo)] [(.int (lcmpW vp vp'))])) t → Steps p.tables e below (s₁.setTop (entryFrame m #[(.ref va), (.ref vo)] 3)) t := by
        intro t kt
        refine pre9 t ?_
        show Steps p.tables e below (T8.setTop (mkF m 32 #[.val (.ref va), .val (.ref vo), .val (.ref vo)] [(.int (lcmpW vq vq'))])) _
        refine XS.ifNo X8.here hx rfl (hb hby d6_32) rfl ((if0 _ _).trans (teq (((lw_eq _ _).mpr hc10) : (lcmpW vq vq') = (0 : Int32))).2) ?_
        show Steps p.tables e below (T8.setTop (mkF m 35 #[.val (.ref va), .val (.ref vo), .val (.ref vo)] [])) _
        refine XS.aloadN X8.here hx rfl (hb hby d6_35) rfl rfl ?_
        show Steps p.tables e below (T8.setTop (mkF m 36 #[.val (.ref va), .val (.ref vo), .val (.ref vo)] [(.ref va)])) _
        refine st11 _ ?_
        show Steps p.tables e below (T11.setTop (mkF m 39 #[.val (.ref va), .val (.ref vo), .val (.ref vo)] [(.long vp)])) _
        refine XS.aloadN X11.here hx rfl (hb hby d6_39) rfl rfl ?_
        show Steps p.tables e below (T11.setTop (mkF m 40 #[.val (.ref va), .val (.ref vo), .val (.ref vo)] [(.ref vo), (.long vp)])) _
        refine st12 _ ?_
        show Steps p.tables e below (T12.setTop (mkF m 43 #[.val (.ref va), .val (.ref vo), .val (.ref vo)] [(.long vp'), (.long vp)])) _
        refine XS.lcmp X12.here hx rfl (hb hby d6_43) rfl ?_
        exact kt
      by_cases hc14 : vp = vp'
      ·
        obtain ⟨fs, hr, hrun, hended, hW, hsame⟩ := X12.leave (v := some (.int (1 : Int32))) (fun h => by rw [Bd.returns] at h; cases h)
        refine ⟨_, _, pre13 _ ?_, hrun, hended, _, _, rfl, ?_, ⟨_, rfl⟩, hW, hsame.mono (by decide) (by decide)⟩
        ·
          show Steps p.tables e below (T12.setTop (mkF m 44 #[.val (.ref va), .val (.ref vo), .val (.ref vo)] [(.int (lcmpW vp vp'))])) _
          refine XS.ifNo X12.here hx rfl (hb hby d6_44) rfl ((if0 _ _).trans (teq (((lw_eq _ _).mpr hc14) : (lcmpW vp vp') = (0 : Int32))).2) ?_
          show Steps p.tables e below (T12.setTop (mkF m 47 #[.val (.ref va), .val (.ref vo), .val (.ref vo)] [])) _
          refine XS.iconst X12.here hx rfl (hb hby d6_47) ?_
          show Steps p.tables e below (T12.setTop (mkF m 48 #[.val (.ref va), .val (.ref vo), .val (.ref vo)] [(.int (1 : Int32))])) _
          refine XS.goto X12.here hx rfl (pc0 := 48) (pc' := 52) rfl (hb hby d6_48) (by decide) (by decide) ?_
          show Steps p.tables e below (T12.setTop (mkF m 52 #[.val (.ref va), .val (.ref vo), .val (.ref vo)] [(.int (1 : Int32))])) _
          exact retN X12 hx (t := .boolean) Bd.returns (by simp) (hb hby d6_52) hr
        ·
          show Q6 Z va vo vs vq vp vs' vq' vp' h0 n0 _ T12.heap _
          rw [e12]
          have hv : (1 : Int32) = (own_eq va vo vs vq vp vs' vq' vp') := by rw [own_eq, if_pos hc6, if_pos hc10, if_pos hc14]
          exact ⟨(congrArg (fun z => some (Value.int z)) hv), N0, rfl⟩
      ·
        obtain ⟨fs, hr, hrun, hended, hW, hsame⟩ := X12.leave (v := some (.int (0 : Int32))) (fun h => by rw [Bd.returns] at h; cases h)
        refine ⟨_, _, pre13 _ ?_, hrun, hended, _, _, rfl, ?_, ⟨_, rfl⟩, hW, hsame.mono (by decide) (by decide)⟩
        ·
          show Steps p.tables e below (T12.setTop (mkF m 44 #[.val (.ref va), .val (.ref vo), .val (.ref vo)] [(.int (lcmpW vp vp'))])) _
          refine XS.ifYes X12.here hx rfl (pc0 := 44) (pc' := 51) rfl (hb hby d6_44) rfl ((if0 _ _).trans (feq ((fun q => hc14 ((lw_eq _ _).mp q)) : ¬ ((lcmpW vp vp') = (0 : Int32)))).2) (by decide) (by decide) ?_
          show Steps p.tables e below (T12.setTop (mkF m 51 #[.val (.ref va), .val (.ref vo), .val (.ref vo)] [])) _
          refine XS.iconst X12.here hx rfl (hb hby d6_51) ?_
          show Steps p.tables e below (T12.setTop (mkF m 52 #[.val (.ref va), .val (.ref vo), .val (.ref vo)] [(.int (0 : Int32))])) _
          exact retN X12 hx (t := .boolean) Bd.returns (by simp) (hb hby d6_52) hr
        ·
          show Q6 Z va vo vs vq vp vs' vq' vp' h0 n0 _ T12.heap _
          rw [e12]
          have hv : (0 : Int32) = (own_eq va vo vs vq vp vs' vq' vp') := by rw [own_eq, if_pos hc6, if_pos hc10, if_neg hc14]
          exact ⟨(congrArg (fun z => some (Value.int z)) hv), N0, rfl⟩
    ·
      obtain ⟨fs, hr, hrun, hended, hW, hsame⟩ := X8.leave (v := some (.int (0 : Int32))) (fun h => by rw [Bd.returns] at h; cases h)
      refine ⟨_, _, pre9 _ ?_, hrun, hended, _, _, rfl, ?_, ⟨_, rfl⟩, hW, hsame.mono (by decide) (by decide)⟩
      ·
        show Steps p.tables e below (T8.setTop (mkF m 32 #[.val (.ref va), .val (.ref vo), .val (.ref vo)] [(.int (lcmpW vq vq'))])) _
        refine XS.ifYes X8.here hx rfl (pc0 := 32) (pc' := 51) rfl (hb hby d6_32) rfl ((if0 _ _).trans (feq ((fun q => hc10 ((lw_eq _ _).mp q)) : ¬ ((lcmpW vq vq') = (0 : Int32)))).2) (by decide) (by decide) ?_
        show Steps p.tables e below (T8.setTop (mkF m 51 #[.val (.ref va), .val (.ref vo), .val (.ref vo)] [])) _
        refine XS.iconst X8.here hx rfl (hb hby d6_51) ?_
        show Steps p.tables e below (T8.setTop (mkF m 52 #[.val (.ref va), .val (.ref vo), .val (.ref vo)] [(.int (0 : Int32))])) _
        exact retN X8 hx (t := .boolean) Bd.returns (by simp) (hb hby d6_52) hr
      ·
        show Q6 Z va vo vs vq vp vs' vq' vp' h0 n0 _ T8.heap _
        rw [e8]
        have hv : (0 : Int32) = (own_eq va vo vs vq vp vs' vq' vp') := by rw [own_eq, if_pos hc6, if_neg hc10]
        exact ⟨(congrArg (fun z => some (Value.int z)) hv), N0, rfl⟩
  ·
    obtain ⟨fs, hr, hrun, hended, hW, hsame⟩ := X4.leave (v := some (.int (0 : Int32))) (fun h => by rw [Bd.returns] at h; cases h)
    refine ⟨_, _, pre5 _ ?_, hrun, hended, _, _, rfl, ?_, ⟨_, rfl⟩, hW, hsame.mono (by decide) (by decide)⟩
    ·
      show Steps p.tables e below (T4.setTop (mkF m 20 #[.val (.ref va), .val (.ref vo), .val (.ref vo)] [(.int vs'), (.int vs)])) _
      refine XS.icmpYes X4.here hx rfl (pc0 := 20) (pc' := 51) rfl (hb hby d6_20) rfl (feq (hc6 : ¬ (vs = vs'))).2 (by decide) (by decide) ?_
      show Steps p.tables e below (T4.setTop (mkF m 51 #[.val (.ref va), .val (.ref vo), .val (.ref vo)] [])) _
      refine XS.iconst X4.here hx rfl (hb hby d6_51) ?_
      show Steps p.tables e below (T4.setTop (mkF m 52 #[.val (.ref va), .val (.ref vo), .val (.ref vo)] [(.int (0 : Int32))])) _
      exact retN X4 hx (t := .boolean) Bd.returns (by simp) (hb hby d6_52) hr
    ·
      show Q6 Z va vo vs vq vp vs' vq' vp' h0 n0 _ T4.heap _
      rw [e4]
      have hv : (0 : Int32) = (own_eq va vo vs vq vp vs' vq' vp') := by rw [own_eq, if_neg hc6]
      exact ⟨(congrArg (fun z => some (Value.int z)) hv), N0, rfl⟩
theorem ef_rmEn (m : MethodId) (x0 : Addr) : entryFrame m #[(.ref x0), .null] 3 = mkF m 0 #[.val (.ref x0), .val .null, .unset] [] := by first | (simp [entryFrame, mkF, argsToLocals, Value.category]; done) | rfl
def QEn (Z : State) (va : Addr) (h0 : Heap) (n0 : Nat) (v : Option Value) (h : Heap) (L : List Loc) : Prop := v = some (.int (0 : Int32)) ∧ Fr n0 L ∧ h = h0
set_option maxRecDepth 65536 in
set_option maxHeartbeats 40000000 in
theorem rmEn (l : Launch) (Z : State) (a0 : Array Value) (hw : ∀ d ∈ tables_1, d.before a0 Z = true) (ws : List Jvm.Cond) (va : Addr) (h0 : Heap) (n0 : Nat) (Z0 : n0 ≤ h0.size) :
    MetFree l (⟨"com/example/causeline/causeline/core/MessageId", "equals", "(Ljava/lang/Object;)Z"⟩ : MethodName) (head1 (Jvm.Cond.code (⟨"com/example/causeline/causeline/core/MessageId", "equals", "(Ljava/lang/Object;)Z"⟩ : MethodName) prog_51_method_5_code 3 (some .boolean) :: ws) ({ frames := 0, cells := 0, slots := 0, locals := 0 } : Room)) (fun a U => a = #[(.ref va), .null] ∧ Z.Warmed39 U.vm ∧ U.heap = h0) (fun _ _ _ _ _ => True) (fun _ U o U' => ∃ v L, o = .returned v ∧ QEn Z va h0 n0 v U'.heap L ∧ FrameEnd U o U' L ({ frames := 0, cells := 0, slots := 0, locals := 0 } : Room).cells ({ frames := 0, cells := 0, slots := 0, locals := 0 } : Room).slots) := by
  refine MetFree.of_bodySF (plainFor_of_name pn_70) hisR ?_
  intro p e s m args below meth c s₁ Bd hml0 hP hK
  obtain ⟨rfl, hZ, hh⟩ := hP
  have hx := Bd.exec
  have hby := Bd.bytes
  have hml : c.maxLocals = 3 := hml0
  have hown : s.vm.findClass "com/example/causeline/causeline/core/MessageId" = some m.cls := findClass_of_methodNamed Bd.named
  have hnm := (name_of_methodNamed Bd.named Bd.method).1
  have X0 : Stand p l e ({ frames := 0, cells := 0, slots := 0, locals := 0 } : Room) s m #[(.ref va), .null] below meth c s₁ [] 0 0 := Stand.of_body Bd
  have e0 : s₁.heap = h0 := by rw [← hh, Bd.state]; rfl
  have N0 := Fr.nil n0
  have pre0 : ∀ t, Steps p.tables e below (s₁.setTop (mkF m 0 #[.val (.ref va), .val .null, .unset] [])) t → Steps p.tables e below (s₁.setTop (entryFrame m #[(.ref va), .null] 3)) t := fun t k => castTop (ef_rmEn m va) k
  obtain ⟨fs, hr, hrun, hended, hW, hsame⟩ := X0.leave (v := some (.int (0 : Int32))) (fun h => by rw [Bd.returns] at h; cases h)
  refine ⟨_, _, pre0 _ ?_, hrun, hended, _, _, rfl, ?_, ⟨_, rfl⟩, hW, hsame.mono (by decide) (by decide)⟩
  ·
    show Steps p.tables e below (s₁.setTop (mkF m 0 #[.val (.ref va), .val .null, .unset] [])) _
    refine XS.aloadN X0.here hx rfl (hb hby d6_0) rfl rfl ?_
    show Steps p.tables e below (s₁.setTop (mkF m 1 #[.val (.ref va), .val .null, .unset] [.null])) _
    refine X0.instanceofNull hx (g := (mkF m 1 #[.val (.ref va), .val .null, .unset] [.null])) rfl rfl (hb hby d6_1) _ ?_
    show Steps p.tables e below (s₁.setTop (mkF m 4 #[.val (.ref va), .val .null, .unset] [(.int (0 : Int32))])) _
    refine XS.ifYes X0.here hx rfl (pc0 := 4) (pc' := 51) rfl (hb hby d6_4) rfl ((if0 _ _).trans (teq ((by decide) : (0 : Int32) = (0 : Int32))).1) (by decide) (by decide) ?_
    show Steps p.tables e below (s₁.setTop (mkF m 51 #[.val (.ref va), .val .null, .unset] [])) _
    refine XS.iconst X0.here hx rfl (hb hby d6_51) ?_
    show Steps p.tables e below (s₁.setTop (mkF m 52 #[.val (.ref va), .val .null, .unset] [(.int (0 : Int32))])) _
    exact retN X0 hx (t := .boolean) Bd.returns (by simp) (hb hby d6_52) hr
  ·
    show QEn Z va h0 n0 _ s₁.heap _
    rw [e0]
    exact ⟨rfl, N0, rfl⟩
theorem own_noint {Z : State} {a0 : Array Value} (w1 : (Cond.superclass "java/lang/Integer" "java/lang/Number").before a0 Z = true) (w2 : (Cond.superclass "java/lang/Number" "java/lang/Object").before a0 Z = true) (w3 : (Cond.noSuperclass "java/lang/Object").before a0 Z = true) (wi : (Cond.instantiable "com/example/causeline/causeline/core/MessageId" 3).before a0 Z = true) :
    ∃ c t, Z.vm.findClass "java/lang/Integer" = some c ∧ Z.vm.findClass "com/example/causeline/causeline/core/MessageId" = some t ∧ Z.vm.assignable c t = false := by
  obtain ⟨t, kt, g1, g2, g3, g4, -⟩ := Cond.instantiable_spec wi
  have n0 : NS Z "java/lang/Object" "com/example/causeline/causeline/core/MessageId" := by
    obtain ⟨c, k, h1, h2, h3, -, -⟩ := Cond.noSuperclass_spec w3
    have ne := ids_ne h1 g1 (by decide)
    refine ⟨c, t, h1, g1, fun fuel => ?_⟩
    cases fuel with
    | zero => rfl
    | succ f => simp [Vm.isSubclassAux, ne, h2, h3]
  obtain ⟨c, t', h0, g0, n3⟩ := NS.step w1 (NS.step w2 n0 (by decide)) (by decide)
  cases g1.symm.trans g0
  obtain ⟨p, k, kp, h1, h2, h3, h4, h5, -, h7⟩ := Cond.superclass_spec h0 w1
  have ne := ids_ne h0 g1 (by decide)
  refine ⟨c, t, h0, g1, ?_⟩
  show Z.vm.assignableAux (255 + 1) c t = false
  have g5 : kt.isInterface = false := by simp only [Bool.or_eq_false_iff] at g4; exact g4.1
  simp [Vm.assignableAux, ne, h2, g2, h5, g3, g5, Vm.isSubclass, n3]
theorem ef_rmEi (m : MethodId) (x0 : Addr) (x1 : Addr) : entryFrame m #[(.ref x0), (.ref x1)] 3 = mkF m 0 #[.val (.ref x0), .val (.ref x1), .unset] [] := by first | (simp [entryFrame, mkF, argsToLocals, Value.category]; done) | rfl
def QEi (Z : State) (va : Addr) (vo : Addr) (h0 : Heap) (n0 : Nat) (v : Option Value) (h : Heap) (L : List Loc) : Prop := v = some (.int (0 : Int32)) ∧ Fr n0 L ∧ h = h0
set_option maxRecDepth 65536 in
set_option maxHeartbeats 40000000 in
theorem rmEi (l : Launch) (Z : State) (a0 : Array Value) (hw : ∀ d ∈ tables_1, d.before a0 Z = true) (ws : List Jvm.Cond) (va : Addr) (vo : Addr) (h0 : Heap) (n0 : Nat) (Z0 : n0 ≤ h0.size) (Eo : Exa Z h0 vo "java/lang/Integer") :
    MetFree l (⟨"com/example/causeline/causeline/core/MessageId", "equals", "(Ljava/lang/Object;)Z"⟩ : MethodName) (head1 (Jvm.Cond.code (⟨"com/example/causeline/causeline/core/MessageId", "equals", "(Ljava/lang/Object;)Z"⟩ : MethodName) prog_51_method_5_code 3 (some .boolean) :: ws) ({ frames := 0, cells := 0, slots := 0, locals := 0 } : Room)) (fun a U => a = #[(.ref va), (.ref vo)] ∧ Z.Warmed39 U.vm ∧ U.heap = h0) (fun _ _ _ _ _ => True) (fun _ U o U' => ∃ v L, o = .returned v ∧ QEi Z va vo h0 n0 v U'.heap L ∧ FrameEnd U o U' L ({ frames := 0, cells := 0, slots := 0, locals := 0 } : Room).cells ({ frames := 0, cells := 0, slots := 0, locals := 0 } : Room).slots) := by
  refine MetFree.of_bodySF (plainFor_of_name pn_70) hisR ?_
  intro p e s m args below meth c s₁ Bd hml0 hP hK
  obtain ⟨rfl, hZ, hh⟩ := hP
  have hx := Bd.exec
  have hby := Bd.bytes
  have hml : c.maxLocals = 3 := hml0
  have hown : s.vm.findClass "com/example/causeline/causeline/core/MessageId" = some m.cls := findClass_of_methodNamed Bd.named
  have hnm := (name_of_methodNamed Bd.named Bd.method).1
  have X0 : Stand p l e ({ frames := 0, cells := 0, slots := 0, locals := 0 } : Room) s m #[(.ref va), (.ref vo)] below meth c s₁ [] 0 0 := Stand.of_body Bd
  have e0 : s₁.heap = h0 := by rw [← hh, Bd.state]; rfl
  have N0 := Fr.nil n0
  have pre0 : ∀ t, Steps p.tables e below (s₁.setTop (mkF m 0 #[.val (.ref va), .val (.ref vo), .unset] [])) t → Steps p.tables e below (s₁.setTop (entryFrame m #[(.ref va), (.ref vo)] 3)) t := fun t k => castTop (ef_rmEi m va vo) k
  obtain ⟨T1, X1, e1, st1⟩ := instNo X0 hx hZ hown (hw _ (List.mem_of_getElem? (i := 34) rfl)) e0 Eo (own_noint (hw _ (List.mem_of_getElem? (i := 57) rfl)) (hw _ (List.mem_of_getElem? (i := 58) rfl)) (hw _ (List.mem_of_getElem? (i := 59) rfl)) (hw _ (List.mem_of_getElem? (i := 10) rfl))) (g := (mkF m 1 #[.val (.ref va), .val (.ref vo), .unset] [(.ref vo)])) rfl rfl (hb hby d6_1)
  obtain ⟨fs, hr, hrun, hended, hW, hsame⟩ := X1.leave (v := some (.int (0 : Int32))) (fun h => by rw [Bd.returns] at h; cases h)
  refine ⟨_, _, pre0 _ ?_, hrun, hended, _, _, rfl, ?_, ⟨_, rfl⟩, hW, hsame.mono (by decide) (by decide)⟩
  ·
    show Steps p.tables e below (s₁.setTop (mkF m 0 #[.val (.ref va), .val (.ref vo), .unset] [])) _
    refine XS.aloadN X0.here hx rfl (hb hby d6_0) rfl rfl ?_
    show Steps p.tables e below (s₁.setTop (mkF m 1 #[.val (.ref va), .val (.ref vo), .unset] [(.ref vo)])) _
    refine st1 _ ?_
    show Steps p.tables e below (T1.setTop (mkF m 4 #[.val (.ref va), .val (.ref vo), .unset] [(.int (0 : Int32))])) _
    refine XS.ifYes X1.here hx rfl (pc0 := 4) (pc' := 51) rfl (hb hby d6_4) rfl ((if0 _ _).trans (teq ((by decide) : (0 : Int32) = (0 : Int32))).1) (by decide) (by decide) ?_
    show Steps p.tables e below (T1.setTop (mkF m 51 #[.val (.ref va), .val (.ref vo), .unset] [])) _
    refine XS.iconst X1.here hx rfl (hb hby d6_51) ?_
    show Steps p.tables e below (T1.setTop (mkF m 52 #[.val (.ref va), .val (.ref vo), .unset] [(.int (0 : Int32))])) _
    exact retN X1 hx (t := .boolean) Bd.returns (by simp) (hb hby d6_52) hr
  ·
    show QEi Z va vo h0 n0 _ T1.heap _
    rw [e1]
    exact ⟨rfl, N0, rfl⟩
theorem own_max1 (x : Int32) : ¬ own_maxi (1 : Int32) x < (1 : Int32) := by
  unfold own_maxi
  split
  · rename_i h; intro q; exact absurd (Int32.lt_trans h q) (Int32.lt_irrefl)
  · exact Int32.lt_irrefl
theorem own_max1J (x : Int64) : ¬ own_maxj (1 : Int64) x < (1 : Int64) := by
  unfold own_maxj
  split
  · rename_i h; intro q; exact absurd (Int64.lt_trans h q) (Int64.lt_irrefl)
  · exact Int64.lt_irrefl
theorem own_max0 (u : Int64) : ¬ (u &&& (9223372036854775807 : Int64)) < (0 : Int64) := by
  rw [Int64.lt_iff_toInt_lt]
  have : (u &&& (9223372036854775807 : Int64)).toInt = (u.toBitVec &&& 9223372036854775807#64).toInt := rfl
  have e0 : (0 : Int64).toInt = 0 := rfl
  rw [this, BitVec.toInt_eq_toNat_of_lt, e0]
  · omega
  · rw [BitVec.toNat_and]
    have := Nat.and_le_right (n := u.toBitVec.toNat) (m := (9223372036854775807#64).toNat)
    have e : (9223372036854775807#64).toNat = 9223372036854775807 := rfl
    omega
theorem own_eq_self (a b : Addr) (s : Int32) (q p : Int64) : own_eq a b s q p s q p = 1 := by rw [own_eq, if_pos rfl, if_pos rfl, if_pos rfl]
theorem own_eq_1 (a b : Addr) (s s' : Int32) (q p q' p' : Int64) : own_eq a b s q p s' q' p' = (if s = s' then (if q = q' then (if p = p' then (1 : Int32) else (0 : Int32)) else (0 : Int32)) else (0 : Int32)) := rfl
theorem own_eq_2 (a b : Addr) (s s' : Int32) (q p q' p' : Int64) : own_eq a b s' q' p' s q p = (if s = s' then (if q = q' then (if p = p' then (1 : Int32) else (0 : Int32)) else (0 : Int32)) else (0 : Int32)) := by
  rw [own_eq]
  by_cases h1 : s = s' <;> by_cases h2 : q = q' <;> by_cases h3 : p = p' <;> simp [h1, h2, h3, Ne.symm, eq_comm]
theorem pd_2 : parseMethodDescriptor "(II)I" = some ⟨[.int, .int], some .int⟩ := by decide +kernel
theorem pd_3 : parseMethodDescriptor "(JJ)J" = some ⟨[.long, .long], some .long⟩ := by decide +kernel
theorem pd_4 : parseMethodDescriptor "(IJJ)V" = some ⟨[.int, .long, .long], none⟩ := by decide +kernel
theorem pd_5 : parseMethodDescriptor "(Ljava/lang/Object;)Z" = some ⟨[(.object "java/lang/Object")], some .boolean⟩ := by decide +kernel
theorem pd_6 : parseMethodDescriptor "(I)Ljava/lang/Integer;" = some ⟨[.int], some (.object "java/lang/Integer")⟩ := by decide +kernel
theorem pn_98 : plainName "com/example/causeline/causeline/core/MessageIdEqualsPinLaw" = true := by first | (simp [plainName, overriddenIn]; done) | decide +kernel
theorem ef_rm0 (m : MethodId) (x0 : Int32) (x1 : Int64) (x2 : Int64) (x3 : Int32) (x4 : Int64) (x5 : Int64) : entryFrame m #[(.int x0), (.long x1), (.long x2), (.int x3), (.long x4), (.long x5)] maxLocals = mkF m 0 #[.val (.int x0), .val (.long x1), .second, .val (.long x2), .second, .val (.int x3), .val (.long x4), .second, .val (.long x5), .second, .unset, .unset, .unset, .unset, .unset, .unset, .unset, .unset, .unset, .unset, .unset, .unset, .unset] [] := by first | (simp [entryFrame, mkF, argsToLocals, Value.category, maxLocals]; done) | rfl
def Q0 (Z : State) (vs1 : Int32) (vq1 : Int64) (vp1 : Int64) (vs2 : Int32) (vq2 : Int64) (vp2 : Int64) (vc : Addr) (cl : Cell) (h0 : Heap) (n0 : Nat) (v : Option Value) (h : Heap) (L : List Loc) : Prop := v = some (.int (1 : Int32)) ∧ Fr n0 L
set_option maxRecDepth 65536 in
set_option maxHeartbeats 40000000 in
theorem rm0 (l : Launch) (Z : State) (a0 : Array Value) (hw : ∀ d ∈ tables_1, d.before a0 Z = true) (ws : List Jvm.Cond) (vs1 : Int32) (vq1 : Int64) (vp1 : Int64) (vs2 : Int32) (vq2 : Int64) (vp2 : Int64) (vc : Addr) (cl : Cell) (h0 : Heap) (n0 : Nat) (Z0 : n0 ≤ h0.size) (S_high : Sta Z h0 "java/lang/Integer$IntegerCache" "high" "I" (.int (127 : Int32))) (S_cache : Sta Z h0 "java/lang/Integer$IntegerCache" "cache" "[Ljava/lang/Integer;" (.ref vc)) (Arc : Arr Z h0 vc cl (.object "java/lang/Integer")) (hsz : cl.slots.size = (256 : Int32).toNatClampNeg) (hel : ∀ j : Int32, ¬ (j < 0 ∨ cl.slots.size ≤ j.toNatClampNeg) → ∃ x : Addr, cl.slots[j.toNatClampNeg]? = some (.ref x) ∧ Exa Z h0 x "java/lang/Integer") :
    MetFree l x (head1 (Jvm.Cond.code x code maxLocals ret :: ws) room_1) (fun a U => a = #[(.int vs1), (.long vq1), (.long vp1), (.int vs2), (.long vq2), (.long vp2)] ∧ Z.Warmed39 U.vm ∧ U.heap = h0) (fun _ _ _ _ _ => True) (fun _ U o U' => ∃ v L, o = .returned v ∧ Q0 Z vs1 vq1 vp1 vs2 vq2 vp2 vc cl h0 n0 v U'.heap L ∧ FrameEnd U o U' L room_1.cells room_1.slots) := by
  refine MetFree.of_bodySF (plainFor_of_name pn_98) hisR ?_
  intro p e s m args below meth c s₁ Bd hml0 hP hK
  obtain ⟨rfl, hZ, hh⟩ := hP
  have hx := Bd.exec
  have hby := Bd.bytes
  have hml : c.maxLocals = 23 := hml0
  have hown : s.vm.findClass "com/example/causeline/causeline/core/MessageIdEqualsPinLaw" = some m.cls := findClass_of_methodNamed Bd.named
  have hnm := (name_of_methodNamed Bd.named Bd.method).1
  have X0 : Stand p l e room_1 s m #[(.int vs1), (.long vq1), (.long vp1), (.int vs2), (.long vq2), (.long vp2)] below meth c s₁ [] 0 0 := Stand.of_body Bd
  have e0 : s₁.heap = h0 := by rw [← hh, Bd.state]; rfl
  have N0 := Fr.nil n0
  have pre0 : ∀ t, Steps p.tables e below (s₁.setTop (mkF m 0 #[.val (.int vs1), .val (.long vq1), .second, .val (.long vp1), .second, .val (.int vs2), .val (.long vq2), .second, .val (.long vp2), .second, .unset, .unset, .unset, .unset, .unset, .unset, .unset, .unset, .unset, .unset, .unset, .unset, .unset] [])) t → Steps p.tables e below (s₁.setTop (entryFrame m #[(.int vs1), (.long vq1), (.long vp1), (.int vs2), (.long vq2), (.long vp2)] maxLocals)) t := fun t k => castTop (ef_rm0 m vs1 vq1 vp1 vs2 vq2 vp2) k
  obtain ⟨_, _, ⟨T1, L1, k1, n1⟩, -, X1, ⟨Lc1, hQ1, l1, y1, z1⟩, st1⟩ := Jvm.LawKit.callS X0 hx (y := (⟨"java/lang/Math", "max", "(II)I"⟩ : MethodName)) hown (mvT hZ (hw _ (List.mem_of_getElem? (i := 1) rfl))) (mvT hZ (hw _ (List.mem_of_getElem? (i := 2) rfl))) (mvT hZ (hw _ (List.mem_of_getElem? (i := 3) rfl))) (mvT hZ (hw _ (List.mem_of_getElem? (i := 4) rfl))) (by decide) (backOf (W := 0) (rm1 l Z a0 hw [] (1 : Int32) (vs1 &&& (2147483647 : Int32))  h0 n0 Z0 ) hZ (hw _ (List.mem_of_getElem? (i := 4) rfl)) (hw _ (List.mem_of_getElem? (i := 3) rfl)) (by decide) (by decide)) (g := (mkF m 5 #[.val (.int vs1), .val (.long vq1), .second, .val (.long vp1), .second, .val (.int vs2), .val (.long vq2), .second, .val (.long vp2), .second, .unset, .unset, .unset, .unset, .unset, .unset, .unset, .unset, .unset, .unset, .unset, .unset, .unset] [(.int (vs1 &&& (2147483647 : Int32))), (.int (1 : Int32))])) rfl (by rw [hml]; rfl) (argsL := [(.int (1 : Int32)), (.int (vs1 &&& (2147483647 : Int32)))]) (rest := []) (lenOf pd_2 rfl) rfl (by show 2 * 0 + _ ≤ _; exact Nat.le_of_eq rfl) (hb hby at_5) (fun _ _ => ⟨rfl, e0, (by decide : 0 + 0 ≤ _), (by decide : 0 + 0 ≤ _)⟩)
  dsimp only [Pt.U, Pt.locs, Pt.cells, Pt.slots] at X1 l1 y1 z1 st1 hQ1
  subst l1 y1 z1
  obtain ⟨rfl, N1q, e1q⟩ := hQ1
  have N1 := Fr.app N0 N1q
  obtain ⟨_, _, ⟨T2, L2, k2, n2⟩, -, X2, ⟨Lc2, hQ2, l2, y2, z2⟩, st2⟩ := Jvm.LawKit.callS X1 hx (y := (⟨"java/lang/Math", "max", "(JJ)J"⟩ : MethodName)) hown (mvT hZ (hw _ (List.mem_of_getElem? (i := 6) rfl))) (mvT hZ (hw _ (List.mem_of_getElem? (i := 7) rfl))) (mvT hZ (hw _ (List.mem_of_getElem? (i := 3) rfl))) (mvT hZ (hw _ (List.mem_of_getElem? (i := 8) rfl))) (by decide) (backOf (W := 0) (rm2 l Z a0 hw [] (1 : Int64) (vq1 &&& (9223372036854775807 : Int64))  h0 n0 Z0 ) hZ (hw _ (List.mem_of_getElem? (i := 8) rfl)) (hw _ (List.mem_of_getElem? (i := 3) rfl)) (by decide) (by decide)) (g := (mkF m 16 #[.val (.int vs1), .val (.long vq1), .second, .val (.long vp1), .second, .val (.int vs2), .val (.long vq2), .second, .val (.long vp2), .second, .val (.int (own_maxi (1 : Int32) (vs1 &&& (2147483647 : Int32)))), .unset, .unset, .unset, .unset, .unset, .unset, .unset, .unset, .unset, .unset, .unset, .unset] [(.long (vq1 &&& (9223372036854775807 : Int64))), (.long (1 : Int64))])) rfl (by rw [hml]; rfl) (argsL := [(.long (1 : Int64)), (.long (vq1 &&& (9223372036854775807 : Int64)))]) (rest := []) (lenOf pd_3 rfl) rfl (by show 2 * 0 + _ ≤ _; exact Nat.le_of_eq rfl) (hb hby at_16) (fun _ _ => ⟨rfl, e1q, (by decide : 0 + 0 ≤ _), (by decide : 0 + 0 ≤ _)⟩)
  dsimp only [Pt.U, Pt.locs, Pt.cells, Pt.slots] at X2 l2 y2 z2 st2 hQ2
  subst l2 y2 z2
  obtain ⟨rfl, N2q, e2q⟩ := hQ2
  have N2 := Fr.app N1 N2q
  have pre3 : ∀ t, Steps p.tables e below (T2.setTop (mkF m 30 #[.val (.int vs1), .val (.long vq1), .second, .val (.long vp1), .second, .val (.int vs2), .val (.long vq2), .second, .val (.long vp2), .second, .val (.int (own_maxi (1 : Int32) (vs1 &&& (2147483647 : Int32)))), .val (.long (own_maxj (1 : Int64) (vq1 &&& (9223372036854775807 : Int64)))), .second, .val (.long (vp1 &&& (9223372036854775807 : Int64))), .second, .unset, .unset, .unset, .unset, .unset, .unset, .unset, .unset] [(.int vs2)])) t → Steps p.tables e below (s₁.setTop (entryFrame m #[(.int vs1), (.long vq1), (.long vp1), (.int vs2), (.long vq2), (.long vp2)] maxLocals)) t := by
    intro t kt
    refine pre0 t ?_
    show Steps p.tables e below (s₁.setTop (mkF m 0 #[.val (.int vs1), .val (.long vq1), .second, .val (.long vp1), .second, .val (.int vs2), .val (.long vq2), .second, .val (.long vp2), .second, .unset, .unset, .unset, .unset, .unset, .unset, .unset, .unset, .unset, .unset, .unset, .unset, .unset] [])) _
    refine XS.iconst X0.here hx rfl (hb hby at_0) ?_
    show Steps p.tables e below (s₁.setTop (mkF m 1 #[.val (.int vs1), .val (.long vq1), .second, .val (.long vp1), .second, .val (.int vs2), .val (.long vq2), .second, .val (.long vp2), .second, .unset, .unset, .unset, .unset, .unset, .unset, .unset, .unset, .unset, .unset, .unset, .unset, .unset] [(.int (1 : Int32))])) _
    refine XS.iloadN X0.here hx rfl (hb hby at_1) rfl ?_
    show Steps p.tables e below (s₁.setTop (mkF m 2 #[.val (.int vs1), .val (.long vq1), .second, .val (.long vp1), .second, .val (.int vs2), .val (.long vq2), .second, .val (.long vp2), .second, .unset, .unset, .unset, .unset, .unset, .unset, .unset, .unset, .unset, .unset, .unset, .unset, .unset] [(.int vs1), (.int (1 : Int32))])) _
    refine X0.ldcI hx hown (mvT hZ (hw _ (List.mem_of_getElem? (i := 0) rfl))) (g := (mkF m 2 #[.val (.int vs1), .val (.long vq1), .second, .val (.long vp1), .second, .val (.int vs2), .val (.long vq2), .second, .val (.long vp2), .second, .unset, .unset, .unset, .unset, .unset, .unset, .unset, .unset, .unset, .unset, .unset, .unset, .unset] [(.int vs1), (.int (1 : Int32))])) rfl (hb hby at_2) ?_
    show Steps p.tables e below (s₁.setTop (mkF m 4 #[.val (.int vs1), .val (.long vq1), .second, .val (.long vp1), .second, .val (.int vs2), .val (.long vq2), .second, .val (.long vp2), .second, .unset, .unset, .unset, .unset, .unset, .unset, .unset, .unset, .unset, .unset, .unset, .unset, .unset] [(.int (2147483647 : Int32)), (.int vs1), (.int (1 : Int32))])) _
    refine XS.iand X0.here hx rfl (hb hby at_4) rfl ?_
    show Steps p.tables e below (s₁.setTop (mkF m 5 #[.val (.int vs1), .val (.long vq1), .second, .val (.long vp1), .second, .val (.int vs2), .val (.long vq2), .second, .val (.long vp2), .second, .unset, .unset, .unset, .unset, .unset, .unset, .unset, .unset, .unset, .unset, .unset, .unset, .unset] [(.int (vs1 &&& (2147483647 : Int32))), (.int (1 : Int32))])) _
    refine st1 _ ?_
    show Steps p.tables e below (T1.setTop (mkF m 8 #[.val (.int vs1), .val (.long vq1), .second, .val (.long vp1), .second, .val (.int vs2), .val (.long vq2), .second, .val (.long vp2), .second, .unset, .unset, .unset, .unset, .unset, .unset, .unset, .unset, .unset, .unset, .unset, .unset, .unset] [(.int (own_maxi (1 : Int32) (vs1 &&& (2147483647 : Int32))))])) _
    refine XS.istore X1.here hx rfl (hb hby at_8) rfl (l' := #[.val (.int vs1), .val (.long vq1), .second, .val (.long vp1), .second, .val (.int vs2), .val (.long vq2), .second, .val (.long vp2), .second, .val (.int (own_maxi (1 : Int32) (vs1 &&& (2147483647 : Int32)))), .unset, .unset, .unset, .unset, .unset, .unset, .unset, .unset, .unset, .unset, .unset, .unset]) rfl ?_
    show Steps p.tables e below (T1.setTop (mkF m 10 #[.val (.int vs1), .val (.long vq1), .second, .val (.long vp1), .second, .val (.int vs2), .val (.long vq2), .second, .val (.long vp2), .second, .val (.int (own_maxi (1 : Int32) (vs1 &&& (2147483647 : Int32)))), .unset, .unset, .unset, .unset, .unset, .unset, .unset, .unset, .unset, .unset, .unset, .unset] [])) _
    refine XS.lconst X1.here hx rfl (hb hby at_10) ?_
    show Steps p.tables e below (T1.setTop (mkF m 11 #[.val (.int vs1), .val (.long vq1), .second, .val (.long vp1), .second, .val (.int vs2), .val (.long vq2), .second, .val (.long vp2), .second, .val (.int (own_maxi (1 : Int32) (vs1 &&& (2147483647 : Int32)))), .unset, .unset, .unset, .unset, .unset, .unset, .unset, .unset, .unset, .unset, .unset, .unset] [(.long (1 : Int64))])) _
    refine XS.lloadN X1.here hx rfl (hb hby at_11) rfl ?_
    show Steps p.tables e below (T1.setTop (mkF m 12 #[.val (.int vs1), .val (.long vq1), .second, .val (.long vp1), .second, .val (.int vs2), .val (.long vq2), .second, .val (.long vp2), .second, .val (.int (own_maxi (1 : Int32) (vs1 &&& (2147483647 : Int32)))), .unset, .unset, .unset, .unset, .unset, .unset, .unset, .unset, .unset, .unset, .unset, .unset] [(.long vq1), (.long (1 : Int64))])) _
    refine X1.ldc2J hx hown (mvT hZ (hw _ (List.mem_of_getElem? (i := 5) rfl))) (g := (mkF m 12 #[.val (.int vs1), .val (.long vq1), .second, .val (.long vp1), .second, .val (.int vs2), .val (.long vq2), .second, .val (.long vp2), .second, .val (.int (own_maxi (1 : Int32) (vs1 &&& (2147483647 : Int32)))), .unset, .unset, .unset, .unset, .unset, .unset, .unset, .unset, .unset, .unset, .unset, .unset] [(.long vq1), (.long (1 : Int64))])) rfl (hb hby at_12) ?_
    show Steps p.tables e below (T1.setTop (mkF m 15 #[.val (.int vs1), .val (.long vq1), .second, .val (.long vp1), .second, .val (.int vs2), .val (.long vq2), .second, .val (.long vp2), .second, .val (.int (own_maxi (1 : Int32) (vs1 &&& (2147483647 : Int32)))), .unset, .unset, .unset, .unset, .unset, .unset, .unset, .unset, .unset, .unset, .unset, .unset] [(.long (9223372036854775807 : Int64)), (.long vq1), (.long (1 : Int64))])) _
    refine XS.land X1.here hx rfl (hb hby at_15) rfl ?_
    show Steps p.tables e below (T1.setTop (mkF m 16 #[.val (.int vs1), .val (.long vq1), .second, .val (.long vp1), .second, .val (.int vs2), .val (.long vq2), .second, .val (.long vp2), .second, .val (.int (own_maxi (1 : Int32) (vs1 &&& (2147483647 : Int32)))), .unset, .unset, .unset, .unset, .unset, .unset, .unset, .unset, .unset, .unset, .unset, .unset] [(.long (vq1 &&& (9223372036854775807 : Int64))), (.long (1 : Int64))])) _
    refine st2 _ ?_
    show Steps p.tables e below (T2.setTop (mkF m 19 #[.val (.int vs1), .val (.long vq1), .second, .val (.long vp1), .second, .val (.int vs2), .val (.long vq2), .second, .val (.long vp2), .second, .val (.int (own_maxi (1 : Int32) (vs1 &&& (2147483647 : Int32)))), .unset, .unset, .unset, .unset, .unset, .unset, .unset, .unset, .unset, .unset, .unset, .unset] [(.long (own_maxj (1 : Int64) (vq1 &&& (9223372036854775807 : Int64))))])) _
    refine XS.lstore X2.here hx rfl (hb hby at_19) rfl (l' := #[.val (.int vs1), .val (.long vq1), .second, .val (.long vp1), .second, .val (.int vs2), .val (.long vq2), .second, .val (.long vp2), .second, .val (.int (own_maxi (1 : Int32) (vs1 &&& (2147483647 : Int32)))), .val (.long (own_maxj (1 : Int64) (vq1 &&& (9223372036854775807 : Int64)))), .second, .unset, .unset, .unset, .unset, .unset, .unset, .unset, .unset, .unset, .unset]) rfl ?_
    show Steps p.tables e below (T2.setTop (mkF m 21 #[.val (.int vs1), .val (.long vq1), .second, .val (.long vp1), .second, .val (.int vs2), .val (.long vq2), .second, .val (.long vp2), .second, .val (.int (own_maxi (1 : Int32) (vs1 &&& (2147483647 : Int32)))), .val (.long (own_maxj (1 : Int64) (vq1 &&& (9223372036854775807 : Int64)))), .second, .unset, .unset, .unset, .unset, .unset, .unset, .unset, .unset, .unset, .unset] [])) _
    refine XS.lloadN X2.here hx rfl (hb hby at_21) rfl ?_
    show Steps p.tables e below (T2.setTop (mkF m 22 #[.val (.int vs1), .val (.long vq1), .second, .val (.long vp1), .second, .val (.int vs2), .val (.long vq2), .second, .val (.long vp2), .second, .val (.int (own_maxi (1 : Int32) (vs1 &&& (2147483647 : Int32)))), .val (.long (own_maxj (1 : Int64) (vq1 &&& (9223372036854775807 : Int64)))), .second, .unset, .unset, .unset, .unset, .unset, .unset, .unset, .unset, .unset, .unset] [(.long vp1)])) _
    refine X2.ldc2J hx hown (mvT hZ (hw _ (List.mem_of_getElem? (i := 5) rfl))) (g := (mkF m 22 #[.val (.int vs1), .val (.long vq1), .second, .val (.long vp1), .second, .val (.int vs2), .val (.long vq2), .second, .val (.long vp2), .second, .val (.int (own_maxi (1 : Int32) (vs1 &&& (2147483647 : Int32)))), .val (.long (own_maxj (1 : Int64) (vq1 &&& (9223372036854775807 : Int64)))), .second, .unset, .unset, .unset, .unset, .unset, .unset, .unset, .unset, .unset, .unset] [(.long vp1)])) rfl (hb hby at_22) ?_
    show Steps p.tables e below (T2.setTop (mkF m 25 #[.val (.int vs1), .val (.long vq1), .second, .val (.long vp1), .second, .val (.int vs2), .val (.long vq2), .second, .val (.long vp2), .second, .val (.int (own_maxi (1 : Int32) (vs1 &&& (2147483647 : Int32)))), .val (.long (own_maxj (1 : Int64) (vq1 &&& (9223372036854775807 : Int64)))), .second, .unset, .unset, .unset, .unset, .unset, .unset, .unset, .unset, .unset, .unset] [(.long (9223372036854775807 : Int64)), (.long vp1)])) _
    refine XS.land X2.here hx rfl (hb hby at_25) rfl ?_
    show Steps p.tables e below (T2.setTop (mkF m 26 #[.val (.int vs1), .val (.long vq1), .second, .val (.long vp1), .second, .val (.int vs2), .val (.long vq2), .second, .val (.long vp2), .second, .val (.int (own_maxi (1 : Int32) (vs1 &&& (2147483647 : Int32)))), .val (.long (own_maxj (1 : Int64) (vq1 &&& (9223372036854775807 : Int64)))), .second, .unset, .unset, .unset, .unset, .unset, .unset, .unset, .unset, .unset, .unset] [(.long (vp1 &&& (9223372036854775807 : Int64)))])) _
    refine XS.lstore X2.here hx rfl (hb hby at_26) rfl (l' := #[.val (.int vs1), .val (.long vq1), .second, .val (.long vp1), .second, .val (.int vs2), .val (.long vq2), .second, .val (.long vp2), .second, .val (.int (own_maxi (1 : Int32) (vs1 &&& (2147483647 : Int32)))), .val (.long (own_maxj (1 : Int64) (vq1 &&& (9223372036854775807 : Int64)))), .second, .val (.long (vp1 &&& (9223372036854775807 : Int64))), .second, .unset, .unset, .unset, .unset, .unset, .unset, .unset, .unset]) rfl ?_
    show Steps p.tables e below (T2.setTop (mkF m 28 #[.val (.int vs1), .val (.long vq1), .second, .val (.long vp1), .second, .val (.int vs2), .val (.long vq2), .second, .val (.long vp2), .second, .val (.int (own_maxi (1 : Int32) (vs1 &&& (2147483647 : Int32)))), .val (.long (own_maxj (1 : Int64) (vq1 &&& (9223372036854775807 : Int64)))), .second, .val (.long (vp1 &&& (9223372036854775807 : Int64))), .second, .unset, .unset, .unset, .unset, .unset, .unset, .unset, .unset] [])) _
    refine XS.iload X2.here hx rfl (hb hby at_28) rfl ?_
    exact kt
  obtain ⟨T4, L4, X4, e4, N4, pre4⟩ : ∃ (Tm : State) (Lm : List Loc), Stand p l e room_1 s m #[(.int vs1), (.long vq1), (.long vp1), (.int vs2), (.long vq2), (.long vp2)] below meth c Tm Lm 0 0 ∧ Tm.heap = h0 ∧ Fr n0 Lm ∧ ∀ t, Steps p.tables e below (Tm.setTop (mkF m 47 #[.val (.int vs1), .val (.long vq1), .second, .val (.long vp1), .second, .val (.int vs2), .val (.long vq2), .second, .val (.long vp2), .second, .val (.int (own_maxi (1 : Int32) (vs1 &&& (2147483647 : Int32)))), .val (.long (own_maxj (1 : Int64) (vq1 &&& (9223372036854775807 : Int64)))), .second, .val (.long (vp1 &&& (9223372036854775807 : Int64))), .second, .unset, .unset, .unset, .unset, .unset, .unset, .unset, .unset] [(.int (if vs2 < (0 : Int32) then (own_maxi (1 : Int32) (vs1 &&& (2147483647 : Int32))) else (own_maxi (1 : Int32) (vs2 &&& (2147483647 : Int32)))))])) t → Steps p.tables e below (s₁.setTop (entryFrame m #[(.int vs1), (.long vq1), (.long vp1), (.int vs2), (.long vq2), (.long vp2)] maxLocals)) t := by
    by_cases hc5 : vs2 < (0 : Int32)
    ·
      have pre6 : ∀ t, Steps p.tables e below (T2.setTop (mkF m 47 #[.val (.int vs1), .val (.long vq1), .second, .val (.long vp1), .second, .val (.int vs2), .val (.long vq2), .second, .val (.long vp2), .second, .val (.int (own_maxi (1 : Int32) (vs1 &&& (2147483647 : Int32)))), .val (.long (own_maxj (1 : Int64) (vq1 &&& (9223372036854775807 : Int64)))), .second, .val (.long (vp1 &&& (9223372036854775807 : Int64))), .second, .unset, .unset, .unset, .unset, .unset, .unset, .unset, .unset] [(.int (own_maxi (1 : Int32) (vs1 &&& (2147483647 : Int32))))])) t → Steps p.tables e below (s₁.setTop (entryFrame m #[(.int vs1), (.long vq1), (.long vp1), (.int vs2), (.long vq2), (.long vp2)] maxLocals)) t := by
        intro t kt
        refine pre3 t ?_
        show Steps p.tables e below (T2.setTop (mkF m 30 #[.val (.int vs1), .val (.long vq1), .second, .val (.long vp1), .second, .val (.int vs2), .val (.long vq2), .second, .val (.long vp2), .second, .val (.int (own_maxi (1 : Int32) (vs1 &&& (2147483647 : Int32)))), .val (.long (own_maxj (1 : Int64) (vq1 &&& (9223372036854775807 : Int64)))), .second, .val (.long (vp1 &&& (9223372036854775807 : Int64))), .second, .unset, .unset, .unset, .unset, .unset, .unset, .unset, .unset] [(.int vs2)])) _
        refine XS.ifNo X2.here hx rfl (hb hby at_30) rfl ((if0 _ _).trans (tlt (hc5 : vs2 < (0 : Int32))).2.1) ?_
        show Steps p.tables e below (T2.setTop (mkF m 33 #[.val (.int vs1), .val (.long vq1), .second, .val (.long vp1), .second, .val (.int vs2), .val (.long vq2), .second, .val (.long vp2), .second, .val (.int (own_maxi (1 : Int32) (vs1 &&& (2147483647 : Int32)))), .val (.long (own_maxj (1 : Int64) (vq1 &&& (9223372036854775807 : Int64)))), .second, .val (.long (vp1 &&& (9223372036854775807 : Int64))), .second, .unset, .unset, .unset, .unset, .unset, .unset, .unset, .unset] [])) _
        refine XS.iload X2.here hx rfl (hb hby at_33) rfl ?_
        show Steps p.tables e below (T2.setTop (mkF m 35 #[.val (.int vs1), .val (.long vq1), .second, .val (.long vp1), .second, .val (.int vs2), .val (.long vq2), .second, .val (.long vp2), .second, .val (.int (own_maxi (1 : Int32) (vs1 &&& (2147483647 : Int32)))), .val (.long (own_maxj (1 : Int64) (vq1 &&& (9223372036854775807 : Int64)))), .second, .val (.long (vp1 &&& (9223372036854775807 : Int64))), .second, .unset, .unset, .unset, .unset, .unset, .unset, .unset, .unset] [(.int (own_maxi (1 : Int32) (vs1 &&& (2147483647 : Int32))))])) _
        refine XS.goto X2.here hx rfl (pc0 := 35) (pc' := 47) rfl (hb hby at_35) (by decide) (by decide) ?_
        exact kt
      exact ⟨T2, _, X2, e2q, N2, fun t kt => by
        simp only [if_pos hc5] at kt
        exact pre6 t kt⟩
    ·
      obtain ⟨_, _, ⟨T7, L7, k7, n7⟩, -, X7, ⟨Lc7, hQ7, l7, y7, z7⟩, st7⟩ := Jvm.LawKit.callS X2 hx (y := (⟨"java/lang/Math", "max", "(II)I"⟩ : MethodName)) hown (mvT hZ (hw _ (List.mem_of_getElem? (i := 1) rfl))) (mvT hZ (hw _ (List.mem_of_getElem? (i := 2) rfl))) (mvT hZ (hw _ (List.mem_of_getElem? (i := 3) rfl))) (mvT hZ (hw _ (List.mem_of_getElem? (i := 4) rfl))) (by decide) (backOf (W := 0) (rm1 l Z a0 hw [] (1 : Int32) (vs2 &&& (2147483647 : Int32))  h0 n0 Z0 ) hZ (hw _ (List.mem_of_getElem? (i := 4) rfl)) (hw _ (List.mem_of_getElem? (i := 3) rfl)) (by decide) (by decide)) (g := (mkF m 44 #[.val (.int vs1), .val (.long vq1), .second, .val (.long vp1), .second, .val (.int vs2), .val (.long vq2), .second, .val (.long vp2), .second, .val (.int (own_maxi (1 : Int32) (vs1 &&& (2147483647 : Int32)))), .val (.long (own_maxj (1 : Int64) (vq1 &&& (9223372036854775807 : Int64)))), .second, .val (.long (vp1 &&& (9223372036854775807 : Int64))), .second, .unset, .unset, .unset, .unset, .unset, .unset, .unset, .unset] [(.int (vs2 &&& (2147483647 : Int32))), (.int (1 : Int32))])) rfl (by rw [hml]; rfl) (argsL := [(.int (1 : Int32)), (.int (vs2 &&& (2147483647 : Int32)))]) (rest := []) (lenOf pd_2 rfl) rfl (by show 2 * 0 + _ ≤ _; exact Nat.le_of_eq rfl) (hb hby at_44) (fun _ _ => ⟨rfl, e2q, (by decide : 0 + 0 ≤ _), (by decide : 0 + 0 ≤ _)⟩)
      dsimp only [Pt.U, Pt.locs, Pt.cells, Pt.slots] at X7 l7 y7 z7 st7 hQ7
      subst l7 y7 z7
      obtain ⟨rfl, N7q, e7q⟩ := hQ7
      have N7 := Fr.app N2 N7q
      have pre8 : ∀ t, Steps p.tables e below (T7.setTop (mkF m 47 #[.val (.int vs1), .val (.long vq1), .second, .val (.long vp1), .second, .val (.int vs2), .val (.long vq2), .second, .val (.long vp2), .second, .val (.int (own_maxi (1 : Int32) (vs1 &&& (2147483647 : Int32)))), .val (.long (own_maxj (1 : Int64) (vq1 &&& (9223372036854775807 : Int64)))), .second, .val (.long (vp1 &&& (9223372036854775807 : Int64))), .second, .unset, .unset, .unset, .unset, .unset, .unset, .unset, .unset] [(.int (own_maxi (1 : Int32) (vs2 &&& (2147483647 : Int32))))])) t → Steps p.tables e below (s₁.setTop (entryFrame m #[(.int vs1), (.long vq1), (.long vp1), (.int vs2), (.long vq2), (.long vp2)] maxLocals)) t := by
        intro t kt
        refine pre3 t ?_
        show Steps p.tables e below (T2.setTop (mkF m 30 #[.val (.int vs1), .val (.long vq1), .second, .val (.long vp1), .second, .val (.int vs2), .val (.long vq2), .second, .val (.long vp2), .second, .val (.int (own_maxi (1 : Int32) (vs1 &&& (2147483647 : Int32)))), .val (.long (own_maxj (1 : Int64) (vq1 &&& (9223372036854775807 : Int64)))), .second, .val (.long (vp1 &&& (9223372036854775807 : Int64))), .second, .unset, .unset, .unset, .unset, .unset, .unset, .unset, .unset] [(.int vs2)])) _
        refine XS.ifYes X2.here hx rfl (pc0 := 30) (pc' := 38) rfl (hb hby at_30) rfl ((if0 _ _).trans (flt (hc5 : ¬ (vs2 < (0 : Int32)))).2.1) (by decide) (by decide) ?_
        show Steps p.tables e below (T2.setTop (mkF m 38 #[.val (.int vs1), .val (.long vq1), .second, .val (.long vp1), .second, .val (.int vs2), .val (.long vq2), .second, .val (.long vp2), .second, .val (.int (own_maxi (1 : Int32) (vs1 &&& (2147483647 : Int32)))), .val (.long (own_maxj (1 : Int64) (vq1 &&& (9223372036854775807 : Int64)))), .second, .val (.long (vp1 &&& (9223372036854775807 : Int64))), .second, .unset, .unset, .unset, .unset, .unset, .unset, .unset, .unset] [])) _
        refine XS.iconst X2.here hx rfl (hb hby at_38) ?_
        show Steps p.tables e below (T2.setTop (mkF m 39 #[.val (.int vs1), .val (.long vq1), .second, .val (.long vp1), .second, .val (.int vs2), .val (.long vq2), .second, .val (.long vp2), .second, .val (.int (own_maxi (1 : Int32) (vs1 &&& (2147483647 : Int32)))), .val (.long (own_maxj (1 : Int64) (vq1 &&& (9223372036854775807 : Int64)))), .second, .val (.long (vp1 &&& (9223372036854775807 : Int64))), .second, .unset, .unset, .unset, .unset, .unset, .unset, .unset, .unset] [(.int (1 : Int32))])) _
        refine XS.iload X2.here hx rfl (hb hby at_39) rfl ?_
        show Steps p.tables e below (T2.setTop (mkF m 41 #[.val (.int vs1), .val (.long vq1), .second, .val (.long vp1), .second, .val (.int vs2), .val (.long vq2), .second, .val (.long vp2), .second, .val (.int (own_maxi (1 : Int32) (vs1 &&& (2147483647 : Int32)))), .val (.long (own_maxj (1 : Int64) (vq1 &&& (9223372036854775807 : Int64)))), .second, .val (.long (vp1 &&& (9223372036854775807 : Int64))), .second, .unset, .unset, .unset, .unset, .unset, .unset, .unset, .unset] [(.int vs2), (.int (1 : Int32))])) _
        refine X2.ldcI hx hown (mvT hZ (hw _ (List.mem_of_getElem? (i := 0) rfl))) (g := (mkF m 41 #[.val (.int vs1), .val (.long vq1), .second, .val (.long vp1), .second, .val (.int vs2), .val (.long vq2), .second, .val (.long vp2), .second, .val (.int (own_maxi (1 : Int32) (vs1 &&& (2147483647 : Int32)))), .val (.long (own_maxj (1 : Int64) (vq1 &&& (9223372036854775807 : Int64)))), .second, .val (.long (vp1 &&& (9223372036854775807 : Int64))), .second, .unset, .unset, .unset, .unset, .unset, .unset, .unset, .unset] [(.int vs2), (.int (1 : Int32))])) rfl (hb hby at_41) ?_
        show Steps p.tables e below (T2.setTop (mkF m 43 #[.val (.int vs1), .val (.long vq1), .second, .val (.long vp1), .second, .val (.int vs2), .val (.long vq2), .second, .val (.long vp2), .second, .val (.int (own_maxi (1 : Int32) (vs1 &&& (2147483647 : Int32)))), .val (.long (own_maxj (1 : Int64) (vq1 &&& (9223372036854775807 : Int64)))), .second, .val (.long (vp1 &&& (9223372036854775807 : Int64))), .second, .unset, .unset, .unset, .unset, .unset, .unset, .unset, .unset] [(.int (2147483647 : Int32)), (.int vs2), (.int (1 : Int32))])) _
        refine XS.iand X2.here hx rfl (hb hby at_43) rfl ?_
        show Steps p.tables e below (T2.setTop (mkF m 44 #[.val (.int vs1), .val (.long vq1), .second, .val (.long vp1), .second, .val (.int vs2), .val (.long vq2), .second, .val (.long vp2), .second, .val (.int (own_maxi (1 : Int32) (vs1 &&& (2147483647 : Int32)))), .val (.long (own_maxj (1 : Int64) (vq1 &&& (9223372036854775807 : Int64)))), .second, .val (.long (vp1 &&& (9223372036854775807 : Int64))), .second, .unset, .unset, .unset, .unset, .unset, .unset, .unset, .unset] [(.int (vs2 &&& (2147483647 : Int32))), (.int (1 : Int32))])) _
        refine st7 _ ?_
        exact kt
      exact ⟨T7, _, X7, e7q, N7, fun t kt => by
        simp only [if_neg hc5] at kt
        exact pre8 t kt⟩
  have pre9 : ∀ t, Steps p.tables e below (T4.setTop (mkF m 53 #[.val (.int vs1), .val (.long vq1), .second, .val (.long vp1), .second, .val (.int vs2), .val (.long vq2), .second, .val (.long vp2), .second, .val (.int (own_maxi (1 : Int32) (vs1 &&& (2147483647 : Int32)))), .val (.long (own_maxj (1 : Int64) (vq1 &&& (9223372036854775807 : Int64)))), .second, .val (.long (vp1 &&& (9223372036854775807 : Int64))), .second, .val (.int (if vs2 < (0 : Int32) then (own_maxi (1 : Int32) (vs1 &&& (2147483647 : Int32))) else (own_maxi (1 : Int32) (vs2 &&& (2147483647 : Int32))))), .unset, .unset, .unset, .unset, .unset, .unset, .unset] [(.int (lcmpW vq2 (0 : Int64)))])) t → Steps p.tables e below (s₁.setTop (entryFrame m #[(.int vs1), (.long vq1), (.long vp1), (.int vs2), (.long vq2), (.long vp2)] maxLocals)) t := by
    intro t kt
    refine pre4 t ?_
    show Steps p.tables e below (T4.setTop (mkF m 47 #[.val (.int vs1), .val (.long vq1), .second, .val (.long vp1), .second, .val (.int vs2), .val (.long vq2), .second, .val (.long vp2), .second, .val (.int (own_maxi (1 : Int32) (vs1 &&& (2147483647 : Int32)))), .val (.long (own_maxj (1 : Int64) (vq1 &&& (9223372036854775807 : Int64)))), .second, .val (.long (vp1 &&& (9223372036854775807 : Int64))), .second, .unset, .unset, .unset, .unset, .unset, .unset, .unset, .unset] [(.int (if vs2 < (0 : Int32) then (own_maxi (1 : Int32) (vs1 &&& (2147483647 : Int32))) else (own_maxi (1 : Int32) (vs2 &&& (2147483647 : Int32)))))])) _
    refine XS.istore X4.here hx rfl (hb hby at_47) rfl (l' := #[.val (.int vs1), .val (.long vq1), .second, .val (.long vp1), .second, .val (.int vs2), .val (.long vq2), .second, .val (.long vp2), .second, .val (.int (own_maxi (1 : Int32) (vs1 &&& (2147483647 : Int32)))), .val (.long (own_maxj (1 : Int64) (vq1 &&& (9223372036854775807 : Int64)))), .second, .val (.long (vp1 &&& (9223372036854775807 : Int64))), .second, .val (.int (if vs2 < (0 : Int32) then (own_maxi (1 : Int32) (vs1 &&& (2147483647 : Int32))) else (own_maxi (1 : Int32) (vs2 &&& (2147483647 : Int32))))), .unset, .unset, .unset, .unset, .unset, .unset, .unset]) rfl ?_
    show Steps p.tables e below (T4.setTop (mkF m 49 #[.val (.int vs1), .val (.long vq1), .second, .val (.long vp1), .second, .val (.int vs2), .val (.long vq2), .second, .val (.long vp2), .second, .val (.int (own_maxi (1 : Int32) (vs1 &&& (2147483647 : Int32)))), .val (.long (own_maxj (1 : Int64) (vq1 &&& (9223372036854775807 : Int64)))), .second, .val (.long (vp1 &&& (9223372036854775807 : Int64))), .second, .val (.int (if vs2 < (0 : Int32) then (own_maxi (1 : Int32) (vs1 &&& (2147483647 : Int32))) else (own_maxi (1 : Int32) (vs2 &&& (2147483647 : Int32))))), .unset, .unset, .unset, .unset, .unset, .unset, .unset] [])) _
    refine XS.lload X4.here hx rfl (hb hby at_49) rfl ?_
    show Steps p.tables e below (T4.setTop (mkF m 51 #[.val (.int vs1), .val (.long vq1), .second, .val (.long vp1), .second, .val (.int vs2), .val (.long vq2), .second, .val (.long vp2), .second, .val (.int (own_maxi (1 : Int32) (vs1 &&& (2147483647 : Int32)))), .val (.long (own_maxj (1 : Int64) (vq1 &&& (9223372036854775807 : Int64)))), .second, .val (.long (vp1 &&& (9223372036854775807 : Int64))), .second, .val (.int (if vs2 < (0 : Int32) then (own_maxi (1 : Int32) (vs1 &&& (2147483647 : Int32))) else (own_maxi (1 : Int32) (vs2 &&& (2147483647 : Int32))))), .unset, .unset, .unset, .unset, .unset, .unset, .unset] [(.long vq2)])) _
    refine XS.lconst X4.here hx rfl (hb hby at_51) ?_
    show Steps p.tables e below (T4.setTop (mkF m 52 #[.val (.int vs1), .val (.long vq1), .second, .val (.long vp1), .second, .val (.int vs2), .val (.long vq2), .second, .val (.long vp2), .second, .val (.int (own_maxi (1 : Int32) (vs1 &&& (2147483647 : Int32)))), .val (.long (own_maxj (1 : Int64) (vq1 &&& (9223372036854775807 : Int64)))), .second, .val (.long (vp1 &&& (9223372036854775807 : Int64))), .second, .val (.int (if vs2 < (0 : Int32) then (own_maxi (1 : Int32) (vs1 &&& (2147483647 : Int32))) else (own_maxi (1 : Int32) (vs2 &&& (2147483647 : Int32))))), .unset, .unset, .unset, .unset, .unset, .unset, .unset] [(.long (0 : Int64)), (.long vq2)])) _
    refine XS.lcmp X4.here hx rfl (hb hby at_52) rfl ?_
    exact kt
  obtain ⟨T10, L10, X10, e10, N10, pre10⟩ : ∃ (Tm : State) (Lm : List Loc), Stand p l e room_1 s m #[(.int vs1), (.long vq1), (.long vp1), (.int vs2), (.long vq2), (.long vp2)] below meth c Tm Lm 0 0 ∧ Tm.heap = h0 ∧ Fr n0 Lm ∧ ∀ t, Steps p.tables e below (Tm.setTop (mkF m 71 #[.val (.int vs1), .val (.long vq1), .second, .val (.long vp1), .second, .val (.int vs2), .val (.long vq2), .second, .val (.long vp2), .second, .val (.int (own_maxi (1 : Int32) (vs1 &&& (2147483647 : Int32)))), .val (.long (own_maxj (1 : Int64) (vq1 &&& (9223372036854775807 : Int64)))), .second, .val (.long (vp1 &&& (9223372036854775807 : Int64))), .second, .val (.int (if vs2 < (0 : Int32) then (own_maxi (1 : Int32) (vs1 &&& (2147483647 : Int32))) else (own_maxi (1 : Int32) (vs2 &&& (2147483647 : Int32))))), .unset, .unset, .unset, .unset, .unset, .unset, .unset] [(.long (if vq2 < (0 : Int64) then (own_maxj (1 : Int64) (vq1 &&& (9223372036854775807 : Int64))) else (own_maxj (1 : Int64) (vq2 &&& (9223372036854775807 : Int64)))))])) t → Steps p.tables e below (s₁.setTop (entryFrame m #[(.int vs1), (.long vq1), (.long vp1), (.int vs2), (.long vq2), (.long vp2)] maxLocals)) t := by
    by_cases hc11 : vq2 < (0 : Int64)
    ·
      have pre12 : ∀ t, Steps p.tables e below (T4.setTop (mkF m 71 #[.val (.int vs1), .val (.long vq1), .second, .val (.long vp1), .second, .val (.int vs2), .val (.long vq2), .second, .val (.long vp2), .second, .val (.int (own_maxi (1 : Int32) (vs1 &&& (2147483647 : Int32)))), .val (.long (own_maxj (1 : Int64) (vq1 &&& (9223372036854775807 : Int64)))), .second, .val (.long (vp1 &&& (9223372036854775807 : Int64))), .second, .val (.int (if vs2 < (0 : Int32) then (own_maxi (1 : Int32) (vs1 &&& (2147483647 : Int32))) else (own_maxi (1 : Int32) (vs2 &&& (2147483647 : Int32))))), .unset, .unset, .unset, .unset, .unset, .unset, .unset] [(.long (own_maxj (1 : Int64) (vq1 &&& (9223372036854775807 : Int64))))])) t → Steps p.tables e below (s₁.setTop (entryFrame m #[(.int vs1), (.long vq1), (.long vp1), (.int vs2), (.long vq2), (.long vp2)] maxLocals)) t := by
        intro t kt
        refine pre9 t ?_
        show Steps p.tables e below (T4.setTop (mkF m 53 #[.val (.int vs1), .val (.long vq1), .second, .val (.long vp1), .second, .val (.int vs2), .val (.long vq2), .second, .val (.long vp2), .second, .val (.int (own_maxi (1 : Int32) (vs1 &&& (2147483647 : Int32)))), .val (.long (own_maxj (1 : Int64) (vq1 &&& (9223372036854775807 : Int64)))), .second, .val (.long (vp1 &&& (9223372036854775807 : Int64))), .second, .val (.int (if vs2 < (0 : Int32) then (own_maxi (1 : Int32) (vs1 &&& (2147483647 : Int32))) else (own_maxi (1 : Int32) (vs2 &&& (2147483647 : Int32))))), .unset, .unset, .unset, .unset, .unset, .unset, .unset] [(.int (lcmpW vq2 (0 : Int64)))])) _
        refine XS.ifNo X4.here hx rfl (hb hby at_53) rfl ((if0 _ _).trans (tlt (((lw_lt _ _).mpr hc11) : (lcmpW vq2 (0 : Int64)) < (0 : Int32))).2.1) ?_
        show Steps p.tables e below (T4.setTop (mkF m 56 #[.val (.int vs1), .val (.long vq1), .second, .val (.long vp1), .second, .val (.int vs2), .val (.long vq2), .second, .val (.long vp2), .second, .val (.int (own_maxi (1 : Int32) (vs1 &&& (2147483647 : Int32)))), .val (.long (own_maxj (1 : Int64) (vq1 &&& (9223372036854775807 : Int64)))), .second, .val (.long (vp1 &&& (9223372036854775807 : Int64))), .second, .val (.int (if vs2 < (0 : Int32) then (own_maxi (1 : Int32) (vs1 &&& (2147483647 : Int32))) else (own_maxi (1 : Int32) (vs2 &&& (2147483647 : Int32))))), .unset, .unset, .unset, .unset, .unset, .unset, .unset] [])) _
        refine XS.lload X4.here hx rfl (hb hby at_56) rfl ?_
        show Steps p.tables e below (T4.setTop (mkF m 58 #[.val (.int vs1), .val (.long vq1), .second, .val (.long vp1), .second, .val (.int vs2), .val (.long vq2), .second, .val (.long vp2), .second, .val (.int (own_maxi (1 : Int32) (vs1 &&& (2147483647 : Int32)))), .val (.long (own_maxj (1 : Int64) (vq1 &&& (9223372036854775807 : Int64)))), .second, .val (.long (vp1 &&& (9223372036854775807 : Int64))), .second, .val (.int (if vs2 < (0 : Int32) then (own_maxi (1 : Int32) (vs1 &&& (2147483647 : Int32))) else (own_maxi (1 : Int32) (vs2 &&& (2147483647 : Int32))))), .unset, .unset, .unset, .unset, .unset, .unset, .unset] [(.long (own_maxj (1 : Int64) (vq1 &&& (9223372036854775807 : Int64))))])) _
        refine XS.goto X4.here hx rfl (pc0 := 58) (pc' := 71) rfl (hb hby at_58) (by decide) (by decide) ?_
        exact kt
      exact ⟨T4, _, X4, e4, N4, fun t kt => by
        simp only [if_pos hc11] at kt
        exact pre12 t kt⟩
    ·
      obtain ⟨_, _, ⟨T13, L13, k13, n13⟩, -, X13, ⟨Lc13, hQ13, l13, y13, z13⟩, st13⟩ := Jvm.LawKit.callS X4 hx (y := (⟨"java/lang/Math", "max", "(JJ)J"⟩ : MethodName)) hown (mvT hZ (hw _ (List.mem_of_getElem? (i := 6) rfl))) (mvT hZ (hw _ (List.mem_of_getElem? (i := 7) rfl))) (mvT hZ (hw _ (List.mem_of_getElem? (i := 3) rfl))) (mvT hZ (hw _ (List.mem_of_getElem? (i := 8) rfl))) (by decide) (backOf (W := 0) (rm2 l Z a0 hw [] (1 : Int64) (vq2 &&& (9223372036854775807 : Int64))  h0 n0 Z0 ) hZ (hw _ (List.mem_of_getElem? (i := 8) rfl)) (hw _ (List.mem_of_getElem? (i := 3) rfl)) (by decide) (by decide)) (g := (mkF m 68 #[.val (.int vs1), .val (.long vq1), .second, .val (.long vp1), .second, .val (.int vs2), .val (.long vq2), .second, .val (.long vp2), .second, .val (.int (own_maxi (1 : Int32) (vs1 &&& (2147483647 : Int32)))), .val (.long (own_maxj (1 : Int64) (vq1 &&& (9223372036854775807 : Int64)))), .second, .val (.long (vp1 &&& (9223372036854775807 : Int64))), .second, .val (.int (if vs2 < (0 : Int32) then (own_maxi (1 : Int32) (vs1 &&& (2147483647 : Int32))) else (own_maxi (1 : Int32) (vs2 &&& (2147483647 : Int32))))), .unset, .unset, .unset, .unset, .unset, .unset, .unset] [(.long (vq2 &&& (9223372036854775807 : Int64))), (.long (1 : Int64))])) rfl (by rw [hml]; rfl) (argsL := [(.long (1 : Int64)), (.long (vq2 &&& (9223372036854775807 : Int64)))]) (rest := []) (lenOf pd_3 rfl) rfl (by show 2 * 0 + _ ≤ _; exact Nat.le_of_eq rfl) (hb hby at_68) (fun _ _ => ⟨rfl, e4, (by decide : 0 + 0 ≤ _), (by decide : 0 + 0 ≤ _)⟩)
      dsimp only [Pt.U, Pt.locs, Pt.cells, Pt.slots] at X13 l13 y13 z13 st13 hQ13
      subst l13 y13 z13
      obtain ⟨rfl, N13q, e13q⟩ := hQ13
      have N13 := Fr.app N4 N13q
      have pre14 : ∀ t, Steps p.tables e below (T13.setTop (mkF m 71 #[.val (.int vs1), .val (.long vq1), .second, .val (.long vp1), .second, .val (.int vs2), .val (.long vq2), .second, .val (.long vp2), .second, .val (.int (own_maxi (1 : Int32) (vs1 &&& (2147483647 : Int32)))), .val (.long (own_maxj (1 : Int64) (vq1 &&& (9223372036854775807 : Int64)))), .second, .val (.long (vp1 &&& (9223372036854775807 : Int64))), .second, .val (.int (if vs2 < (0 : Int32) then (own_maxi (1 : Int32) (vs1 &&& (2147483647 : Int32))) else (own_maxi (1 : Int32) (vs2 &&& (2147483647 : Int32))))), .unset, .unset, .unset, .unset, .unset, .unset, .unset] [(.long (own_maxj (1 : Int64) (vq2 &&& (9223372036854775807 : Int64))))])) t → Steps p.tables e below (s₁.setTop (entryFrame m #[(.int vs1), (.long vq1), (.long vp1), (.int vs2), (.long vq2), (.long vp2)] maxLocals)) t := by
        intro t kt
        refine pre9 t ?_
        show Steps p.tables e below (T4.setTop (mkF m 53 #[.val (.int vs1), .val (.long vq1), .second, .val (.long vp1), .second, .val (.int vs2), .val (.long vq2), .second, .val (.long vp2), .second, .val (.int (own_maxi (1 : Int32) (vs1 &&& (2147483647 : Int32)))), .val (.long (own_maxj (1 : Int64) (vq1 &&& (9223372036854775807 : Int64)))), .second, .val (.long (vp1 &&& (9223372036854775807 : Int64))), .second, .val (.int (if vs2 < (0 : Int32) then (own_maxi (1 : Int32) (vs1 &&& (2147483647 : Int32))) else (own_maxi (1 : Int32) (vs2 &&& (2147483647 : Int32))))), .unset, .unset, .unset, .unset, .unset, .unset, .unset] [(.int (lcmpW vq2 (0 : Int64)))])) _
        refine XS.ifYes X4.here hx rfl (pc0 := 53) (pc' := 61) rfl (hb hby at_53) rfl ((if0 _ _).trans (flt ((fun q => hc11 ((lw_lt _ _).mp q)) : ¬ ((lcmpW vq2 (0 : Int64)) < (0 : Int32)))).2.1) (by decide) (by decide) ?_
        show Steps p.tables e below (T4.setTop (mkF m 61 #[.val (.int vs1), .val (.long vq1), .second, .val (.long vp1), .second, .val (.int vs2), .val (.long vq2), .second, .val (.long vp2), .second, .val (.int (own_maxi (1 : Int32) (vs1 &&& (2147483647 : Int32)))), .val (.long (own_maxj (1 : Int64) (vq1 &&& (9223372036854775807 : Int64)))), .second, .val (.long (vp1 &&& (9223372036854775807 : Int64))), .second, .val (.int (if vs2 < (0 : Int32) then (own_maxi (1 : Int32) (vs1 &&& (2147483647 : Int32))) else (own_maxi (1 : Int32) (vs2 &&& (2147483647 : Int32))))), .unset, .unset, .unset, .unset, .unset, .unset, .unset] [])) _
        refine XS.lconst X4.here hx rfl (hb hby at_61) ?_
        show Steps p.tables e below (T4.setTop (mkF m 62 #[.val (.int vs1), .val (.long vq1), .second, .val (.long vp1), .second, .val (.int vs2), .val (.long vq2), .second, .val (.long vp2), .second, .val (.int (own_maxi (1 : Int32) (vs1 &&& (2147483647 : Int32)))), .val (.long (own_maxj (1 : Int64) (vq1 &&& (9223372036854775807 : Int64)))), .second, .val (.long (vp1 &&& (9223372036854775807 : Int64))), .second, .val (.int (if vs2 < (0 : Int32) then (own_maxi (1 : Int32) (vs1 &&& (2147483647 : Int32))) else (own_maxi (1 : Int32) (vs2 &&& (2147483647 : Int32))))), .unset, .unset, .unset, .unset, .unset, .unset, .unset] [(.long (1 : Int64))])) _
        refine XS.lload X4.here hx rfl (hb hby at_62) rfl ?_
        show Steps p.tables e below (T4.setTop (mkF m 64 #[.val (.int vs1), .val (.long vq1), .second, .val (.long vp1), .second, .val (.int vs2), .val (.long vq2), .second, .val (.long vp2), .second, .val (.int (own_maxi (1 : Int32) (vs1 &&& (2147483647 : Int32)))), .val (.long (own_maxj (1 : Int64) (vq1 &&& (9223372036854775807 : Int64)))), .second, .val (.long (vp1 &&& (9223372036854775807 : Int64))), .second, .val (.int (if vs2 < (0 : Int32) then (own_maxi (1 : Int32) (vs1 &&& (2147483647 : Int32))) else (own_maxi (1 : Int32) (vs2 &&& (2147483647 : Int32))))), .unset, .unset, .unset, .unset, .unset, .unset, .unset] [(.long vq2), (.long (1 : Int64))])) _
        refine X4.ldc2J hx hown (mvT hZ (hw _ (List.mem_of_getElem? (i := 5) rfl))) (g := (mkF m 64 #[.val (.int vs1), .val (.long vq1), .second, .val (.long vp1), .second, .val (.int vs2), .val (.long vq2), .second, .val (.long vp2), .second, .val (.int (own_maxi (1 : Int32) (vs1 &&& (2147483647 : Int32)))), .val (.long (own_maxj (1 : Int64) (vq1 &&& (9223372036854775807 : Int64)))), .second, .val (.long (vp1 &&& (9223372036854775807 : Int64))), .second, .val (.int (if vs2 < (0 : Int32) then (own_maxi (1 : Int32) (vs1 &&& (2147483647 : Int32))) else (own_maxi (1 : Int32) (vs2 &&& (2147483647 : Int32))))), .unset, .unset, .unset, .unset, .unset, .unset, .unset] [(.long vq2), (.long (1 : Int64))])) rfl (hb hby at_64) ?_
        show Steps p.tables e below (T4.setTop (mkF m 67 #[.val (.int vs1), .val (.long vq1), .second, .val (.long vp1), .second, .val (.int vs2), .val (.long vq2), .second, .val (.long vp2), .second, .val (.int (own_maxi (1 : Int32) (vs1 &&& (2147483647 : Int32)))), .val (.long (own_maxj (1 : Int64) (vq1 &&& (9223372036854775807 : Int64)))), .second, .val (.long (vp1 &&& (9223372036854775807 : Int64))), .second, .val (.int (if vs2 < (0 : Int32) then (own_maxi (1 : Int32) (vs1 &&& (2147483647 : Int32))) else (own_maxi (1 : Int32) (vs2 &&& (2147483647 : Int32))))), .unset, .unset, .unset, .unset, .unset, .unset, .unset] [(.long (9223372036854775807 : Int64)), (.long vq2), (.long (1 : Int64))])) _
        refine XS.land X4.here hx rfl (hb hby at_67) rfl ?_
        show Steps p.tables e below (T4.setTop (mkF m 68 #[.val (.int vs1), .val (.long vq1), .second, .val (.long vp1), .second, .val (.int vs2), .val (.long vq2), .second, .val (.long vp2), .second, .val (.int (own_maxi (1 : Int32) (vs1 &&& (2147483647 : Int32)))), .val (.long (own_maxj (1 : Int64) (vq1 &&& (9223372036854775807 : Int64)))), .second, .val (.long (vp1 &&& (9223372036854775807 : Int64))), .second, .val (.int (if vs2 < (0 : Int32) then (own_maxi (1 : Int32) (vs1 &&& (2147483647 : Int32))) else (own_maxi (1 : Int32) (vs2 &&& (2147483647 : Int32))))), .unset, .unset, .unset, .unset, .unset, .unset, .unset] [(.long (vq2 &&& (9223372036854775807 : Int64))), (.long (1 : Int64))])) _
        refine st13 _ ?_
        exact kt
      exact ⟨T13, _, X13, e13q, N13, fun t kt => by
        simp only [if_neg hc11] at kt
        exact pre14 t kt⟩
  have pre15 : ∀ t, Steps p.tables e below (T10.setTop (mkF m 77 #[.val (.int vs1), .val (.long vq1), .second, .val (.long vp1), .second, .val (.int vs2), .val (.long vq2), .second, .val (.long vp2), .second, .val (.int (own_maxi (1 : Int32) (vs1 &&& (2147483647 : Int32)))), .val (.long (own_maxj (1 : Int64) (vq1 &&& (9223372036854775807 : Int64)))), .second, .val (.long (vp1 &&& (9223372036854775807 : Int64))), .second, .val (.int (if vs2 < (0 : Int32) then (own_maxi (1 : Int32) (vs1 &&& (2147483647 : Int32))) else (own_maxi (1 : Int32) (vs2 &&& (2147483647 : Int32))))), .val (.long (if vq2 < (0 : Int64) then (own_maxj (1 : Int64) (vq1 &&& (9223372036854775807 : Int64))) else (own_maxj (1 : Int64) (vq2 &&& (9223372036854775807 : Int64))))), .second, .unset, .unset, .unset, .unset, .unset] [(.int (lcmpW vp2 (0 : Int64)))])) t → Steps p.tables e below (s₁.setTop (entryFrame m #[(.int vs1), (.long vq1), (.long vp1), (.int vs2), (.long vq2), (.long vp2)] maxLocals)) t := by
    intro t kt
    refine pre10 t ?_
    show Steps p.tables e below (T10.setTop (mkF m 71 #[.val (.int vs1), .val (.long vq1), .second, .val (.long vp1), .second, .val (.int vs2), .val (.long vq2), .second, .val (.long vp2), .second, .val (.int (own_maxi (1 : Int32) (vs1 &&& (2147483647 : Int32)))), .val (.long (own_maxj (1 : Int64) (vq1 &&& (9223372036854775807 : Int64)))), .second, .val (.long (vp1 &&& (9223372036854775807 : Int64))), .second, .val (.int (if vs2 < (0 : Int32) then (own_maxi (1 : Int32) (vs1 &&& (2147483647 : Int32))) else (own_maxi (1 : Int32) (vs2 &&& (2147483647 : Int32))))), .unset, .unset, .unset, .unset, .unset, .unset, .unset] [(.long (if vq2 < (0 : Int64) then (own_maxj (1 : Int64) (vq1 &&& (9223372036854775807 : Int64))) else (own_maxj (1 : Int64) (vq2 &&& (9223372036854775807 : Int64)))))])) _
    refine XS.lstore X10.here hx rfl (hb hby at_71) rfl (l' := #[.val (.int vs1), .val (.long vq1), .second, .val (.long vp1), .second, .val (.int vs2), .val (.long vq2), .second, .val (.long vp2), .second, .val (.int (own_maxi (1 : Int32) (vs1 &&& (2147483647 : Int32)))), .val (.long (own_maxj (1 : Int64) (vq1 &&& (9223372036854775807 : Int64)))), .second, .val (.long (vp1 &&& (9223372036854775807 : Int64))), .second, .val (.int (if vs2 < (0 : Int32) then (own_maxi (1 : Int32) (vs1 &&& (2147483647 : Int32))) else (own_maxi (1 : Int32) (vs2 &&& (2147483647 : Int32))))), .val (.long (if vq2 < (0 : Int64) then (own_maxj (1 : Int64) (vq1 &&& (9223372036854775807 : Int64))) else (own_maxj (1 : Int64) (vq2 &&& (9223372036854775807 : Int64))))), .second, .unset, .unset, .unset, .unset, .unset]) rfl ?_
    show Steps p.tables e below (T10.setTop (mkF m 73 #[.val (.int vs1), .val (.long vq1), .second, .val (.long vp1), .second, .val (.int vs2), .val (.long vq2), .second, .val (.long vp2), .second, .val (.int (own_maxi (1 : Int32) (vs1 &&& (2147483647 : Int32)))), .val (.long (own_maxj (1 : Int64) (vq1 &&& (9223372036854775807 : Int64)))), .second, .val (.long (vp1 &&& (9223372036854775807 : Int64))), .second, .val (.int (if vs2 < (0 : Int32) then (own_maxi (1 : Int32) (vs1 &&& (2147483647 : Int32))) else (own_maxi (1 : Int32) (vs2 &&& (2147483647 : Int32))))), .val (.long (if vq2 < (0 : Int64) then (own_maxj (1 : Int64) (vq1 &&& (9223372036854775807 : Int64))) else (own_maxj (1 : Int64) (vq2 &&& (9223372036854775807 : Int64))))), .second, .unset, .unset, .unset, .unset, .unset] [])) _
    refine XS.lload X10.here hx rfl (hb hby at_73) rfl ?_
    show Steps p.tables e below (T10.setTop (mkF m 75 #[.val (.int vs1), .val (.long vq1), .second, .val (.long vp1), .second, .val (.int vs2), .val (.long vq2), .second, .val (.long vp2), .second, .val (.int (own_maxi (1 : Int32) (vs1 &&& (2147483647 : Int32)))), .val (.long (own_maxj (1 : Int64) (vq1 &&& (9223372036854775807 : Int64)))), .second, .val (.long (vp1 &&& (9223372036854775807 : Int64))), .second, .val (.int (if vs2 < (0 : Int32) then (own_maxi (1 : Int32) (vs1 &&& (2147483647 : Int32))) else (own_maxi (1 : Int32) (vs2 &&& (2147483647 : Int32))))), .val (.long (if vq2 < (0 : Int64) then (own_maxj (1 : Int64) (vq1 &&& (9223372036854775807 : Int64))) else (own_maxj (1 : Int64) (vq2 &&& (9223372036854775807 : Int64))))), .second, .unset, .unset, .unset, .unset, .unset] [(.long vp2)])) _
    refine XS.lconst X10.here hx rfl (hb hby at_75) ?_
    show Steps p.tables e below (T10.setTop (mkF m 76 #[.val (.int vs1), .val (.long vq1), .second, .val (.long vp1), .second, .val (.int vs2), .val (.long vq2), .second, .val (.long vp2), .second, .val (.int (own_maxi (1 : Int32) (vs1 &&& (2147483647 : Int32)))), .val (.long (own_maxj (1 : Int64) (vq1 &&& (9223372036854775807 : Int64)))), .second, .val (.long (vp1 &&& (9223372036854775807 : Int64))), .second, .val (.int (if vs2 < (0 : Int32) then (own_maxi (1 : Int32) (vs1 &&& (2147483647 : Int32))) else (own_maxi (1 : Int32) (vs2 &&& (2147483647 : Int32))))), .val (.long (if vq2 < (0 : Int64) then (own_maxj (1 : Int64) (vq1 &&& (9223372036854775807 : Int64))) else (own_maxj (1 : Int64) (vq2 &&& (9223372036854775807 : Int64))))), .second, .unset, .unset, .unset, .unset, .unset] [(.long (0 : Int64)), (.long vp2)])) _
    refine XS.lcmp X10.here hx rfl (hb hby at_76) rfl ?_
    exact kt
  obtain ⟨T16, L16, X16, e16, N16, pre16⟩ : ∃ (Tm : State) (Lm : List Loc), Stand p l e room_1 s m #[(.int vs1), (.long vq1), (.long vp1), (.int vs2), (.long vq2), (.long vp2)] below meth c Tm Lm 0 0 ∧ Tm.heap = h0 ∧ Fr n0 Lm ∧ ∀ t, Steps p.tables e below (Tm.setTop (mkF m 91 #[.val (.int vs1), .val (.long vq1), .second, .val (.long vp1), .second, .val (.int vs2), .val (.long vq2), .second, .val (.long vp2), .second, .val (.int (own_maxi (1 : Int32) (vs1 &&& (2147483647 : Int32)))), .val (.long (own_maxj (1 : Int64) (vq1 &&& (9223372036854775807 : Int64)))), .second, .val (.long (vp1 &&& (9223372036854775807 : Int64))), .second, .val (.int (if vs2 < (0 : Int32) then (own_maxi (1 : Int32) (vs1 &&& (2147483647 : Int32))) else (own_maxi (1 : Int32) (vs2 &&& (2147483647 : Int32))))), .val (.long (if vq2 < (0 : Int64) then (own_maxj (1 : Int64) (vq1 &&& (9223372036854775807 : Int64))) else (own_maxj (1 : Int64) (vq2 &&& (9223372036854775807 : Int64))))), .second, .unset, .unset, .unset, .unset, .unset] [(.long (if vp2 < (0 : Int64) then (vp1 &&& (9223372036854775807 : Int64)) else (vp2 &&& (9223372036854775807 : Int64))))])) t → Steps p.tables e below (s₁.setTop (entryFrame m #[(.int vs1), (.long vq1), (.long vp1), (.int vs2), (.long vq2), (.long vp2)] maxLocals)) t := by
    by_cases hc17 : vp2 < (0 : Int64)
    ·
      have pre18 : ∀ t, Steps p.tables e below (T10.setTop (mkF m 91 #[.val (.int vs1), .val (.long vq1), .second, .val (.long vp1), .second, .val (.int vs2), .val (.long vq2), .second, .val (.long vp2), .second, .val (.int (own_maxi (1 : Int32) (vs1 &&& (2147483647 : Int32)))), .val (.long (own_maxj (1 : Int64) (vq1 &&& (9223372036854775807 : Int64)))), .second, .val (.long (vp1 &&& (9223372036854775807 : Int64))), .second, .val (.int (if vs2 < (0 : Int32) then (own_maxi (1 : Int32) (vs1 &&& (2147483647 : Int32))) else (own_maxi (1 : Int32) (vs2 &&& (2147483647 : Int32))))), .val (.long (if vq2 < (0 : Int64) then (own_maxj (1 : Int64) (vq1 &&& (9223372036854775807 : Int64))) else (own_maxj (1 : Int64) (vq2 &&& (9223372036854775807 : Int64))))), .second, .unset, .unset, .unset, .unset, .unset] [(.long (vp1 &&& (9223372036854775807 : Int64)))])) t → Steps p.tables e below (s₁.setTop (entryFrame m #[(.int vs1), (.long vq1), (.long vp1), (.int vs2), (.long vq2), (.long vp2)] maxLocals)) t := by
        intro t kt
        refine pre15 t ?_
        show Steps p.tables e below (T10.setTop (mkF m 77 #[.val (.int vs1), .val (.long vq1), .second, .val (.long vp1), .second, .val (.int vs2), .val (.long vq2), .second, .val (.long vp2), .second, .val (.int (own_maxi (1 : Int32) (vs1 &&& (2147483647 : Int32)))), .val (.long (own_maxj (1 : Int64) (vq1 &&& (9223372036854775807 : Int64)))), .second, .val (.long (vp1 &&& (9223372036854775807 : Int64))), .second, .val (.int (if vs2 < (0 : Int32) then (own_maxi (1 : Int32) (vs1 &&& (2147483647 : Int32))) else (own_maxi (1 : Int32) (vs2 &&& (2147483647 : Int32))))), .val (.long (if vq2 < (0 : Int64) then (own_maxj (1 : Int64) (vq1 &&& (9223372036854775807 : Int64))) else (own_maxj (1 : Int64) (vq2 &&& (9223372036854775807 : Int64))))), .second, .unset, .unset, .unset, .unset, .unset] [(.int (lcmpW vp2 (0 : Int64)))])) _
        refine XS.ifNo X10.here hx rfl (hb hby at_77) rfl ((if0 _ _).trans (tlt (((lw_lt _ _).mpr hc17) : (lcmpW vp2 (0 : Int64)) < (0 : Int32))).2.1) ?_
        show Steps p.tables e below (T10.setTop (mkF m 80 #[.val (.int vs1), .val (.long vq1), .second, .val (.long vp1), .second, .val (.int vs2), .val (.long vq2), .second, .val (.long vp2), .second, .val (.int (own_maxi (1 : Int32) (vs1 &&& (2147483647 : Int32)))), .val (.long (own_maxj (1 : Int64) (vq1 &&& (9223372036854775807 : Int64)))), .second, .val (.long (vp1 &&& (9223372036854775807 : Int64))), .second, .val (.int (if vs2 < (0 : Int32) then (own_maxi (1 : Int32) (vs1 &&& (2147483647 : Int32))) else (own_maxi (1 : Int32) (vs2 &&& (2147483647 : Int32))))), .val (.long (if vq2 < (0 : Int64) then (own_maxj (1 : Int64) (vq1 &&& (9223372036854775807 : Int64))) else (own_maxj (1 : Int64) (vq2 &&& (9223372036854775807 : Int64))))), .second, .unset, .unset, .unset, .unset, .unset] [])) _
        refine XS.lload X10.here hx rfl (hb hby at_80) rfl ?_
        show Steps p.tables e below (T10.setTop (mkF m 82 #[.val (.int vs1), .val (.long vq1), .second, .val (.long vp1), .second, .val (.int vs2), .val (.long vq2), .second, .val (.long vp2), .second, .val (.int (own_maxi (1 : Int32) (vs1 &&& (2147483647 : Int32)))), .val (.long (own_maxj (1 : Int64) (vq1 &&& (9223372036854775807 : Int64)))), .second, .val (.long (vp1 &&& (9223372036854775807 : Int64))), .second, .val (.int (if vs2 < (0 : Int32) then (own_maxi (1 : Int32) (vs1 &&& (2147483647 : Int32))) else (own_maxi (1 : Int32) (vs2 &&& (2147483647 : Int32))))), .val (.long (if vq2 < (0 : Int64) then (own_maxj (1 : Int64) (vq1 &&& (9223372036854775807 : Int64))) else (own_maxj (1 : Int64) (vq2 &&& (9223372036854775807 : Int64))))), .second, .unset, .unset, .unset, .unset, .unset] [(.long (vp1 &&& (9223372036854775807 : Int64)))])) _
        refine XS.goto X10.here hx rfl (pc0 := 82) (pc' := 91) rfl (hb hby at_82) (by decide) (by decide) ?_
        exact kt
      exact ⟨T10, _, X10, e10, N10, fun t kt => by
        simp only [if_pos hc17] at kt
        exact pre18 t kt⟩
    ·
      have pre19 : ∀ t, Steps p.tables e below (T10.setTop (mkF m 91 #[.val (.int vs1), .val (.long vq1), .second, .val (.long vp1), .second, .val (.int vs2), .val (.long vq2), .second, .val (.long vp2), .second, .val (.int (own_maxi (1 : Int32) (vs1 &&& (2147483647 : Int32)))), .val (.long (own_maxj (1 : Int64) (vq1 &&& (9223372036854775807 : Int64)))), .second, .val (.long (vp1 &&& (9223372036854775807 : Int64))), .second, .val (.int (if vs2 < (0 : Int32) then (own_maxi (1 : Int32) (vs1 &&& (2147483647 : Int32))) else (own_maxi (1 : Int32) (vs2 &&& (2147483647 : Int32))))), .val (.long (if vq2 < (0 : Int64) then (own_maxj (1 : Int64) (vq1 &&& (9223372036854775807 : Int64))) else (own_maxj (1 : Int64) (vq2 &&& (9223372036854775807 : Int64))))), .second, .unset, .unset, .unset, .unset, .unset] [(.long (vp2 &&& (9223372036854775807 : Int64)))])) t → Steps p.tables e below (s₁.setTop (entryFrame m #[(.int vs1), (.long vq1), (.long vp1), (.int vs2), (.long vq2), (.long vp2)] maxLocals)) t := by
        intro t kt
        refine pre15 t ?_
        show Steps p.tables e below (T10.setTop (mkF m 77 #[.val (.int vs1), .val (.long vq1), .second, .val (.long vp1), .second, .val (.int vs2), .val (.long vq2), .second, .val (.long vp2), .second, .val (.int (own_maxi (1 : Int32) (vs1 &&& (2147483647 : Int32)))), .val (.long (own_maxj (1 : Int64) (vq1 &&& (9223372036854775807 : Int64)))), .second, .val (.long (vp1 &&& (9223372036854775807 : Int64))), .second, .val (.int (if vs2 < (0 : Int32) then (own_maxi (1 : Int32) (vs1 &&& (2147483647 : Int32))) else (own_maxi (1 : Int32) (vs2 &&& (2147483647 : Int32))))), .val (.long (if vq2 < (0 : Int64) then (own_maxj (1 : Int64) (vq1 &&& (9223372036854775807 : Int64))) else (own_maxj (1 : Int64) (vq2 &&& (9223372036854775807 : Int64))))), .second, .unset, .unset, .unset, .unset, .unset] [(.int (lcmpW vp2 (0 : Int64)))])) _
        refine XS.ifYes X10.here hx rfl (pc0 := 77) (pc' := 85) rfl (hb hby at_77) rfl ((if0 _ _).trans (flt ((fun q => hc17 ((lw_lt _ _).mp q)) : ¬ ((lcmpW vp2 (0 : Int64)) < (0 : Int32)))).2.1) (by decide) (by decide) ?_
        show Steps p.tables e below (T10.setTop (mkF m 85 #[.val (.int vs1), .val (.long vq1), .second, .val (.long vp1), .second, .val (.int vs2), .val (.long vq2), .second, .val (.long vp2), .second, .val (.int (own_maxi (1 : Int32) (vs1 &&& (2147483647 : Int32)))), .val (.long (own_maxj (1 : Int64) (vq1 &&& (9223372036854775807 : Int64)))), .second, .val (.long (vp1 &&& (9223372036854775807 : Int64))), .second, .val (.int (if vs2 < (0 : Int32) then (own_maxi (1 : Int32) (vs1 &&& (2147483647 : Int32))) else (own_maxi (1 : Int32) (vs2 &&& (2147483647 : Int32))))), .val (.long (if vq2 < (0 : Int64) then (own_maxj (1 : Int64) (vq1 &&& (9223372036854775807 : Int64))) else (own_maxj (1 : Int64) (vq2 &&& (9223372036854775807 : Int64))))), .second, .unset, .unset, .unset, .unset, .unset] [])) _
        refine XS.lload X10.here hx rfl (hb hby at_85) rfl ?_
        show Steps p.tables e below (T10.setTop (mkF m 87 #[.val (.int vs1), .val (.long vq1), .second, .val (.long vp1), .second, .val (.int vs2), .val (.long vq2), .second, .val (.long vp2), .second, .val (.int (own_maxi (1 : Int32) (vs1 &&& (2147483647 : Int32)))), .val (.long (own_maxj (1 : Int64) (vq1 &&& (9223372036854775807 : Int64)))), .second, .val (.long (vp1 &&& (9223372036854775807 : Int64))), .second, .val (.int (if vs2 < (0 : Int32) then (own_maxi (1 : Int32) (vs1 &&& (2147483647 : Int32))) else (own_maxi (1 : Int32) (vs2 &&& (2147483647 : Int32))))), .val (.long (if vq2 < (0 : Int64) then (own_maxj (1 : Int64) (vq1 &&& (9223372036854775807 : Int64))) else (own_maxj (1 : Int64) (vq2 &&& (9223372036854775807 : Int64))))), .second, .unset, .unset, .unset, .unset, .unset] [(.long vp2)])) _
        refine X10.ldc2J hx hown (mvT hZ (hw _ (List.mem_of_getElem? (i := 5) rfl))) (g := (mkF m 87 #[.val (.int vs1), .val (.long vq1), .second, .val (.long vp1), .second, .val (.int vs2), .val (.long vq2), .second, .val (.long vp2), .second, .val (.int (own_maxi (1 : Int32) (vs1 &&& (2147483647 : Int32)))), .val (.long (own_maxj (1 : Int64) (vq1 &&& (9223372036854775807 : Int64)))), .second, .val (.long (vp1 &&& (9223372036854775807 : Int64))), .second, .val (.int (if vs2 < (0 : Int32) then (own_maxi (1 : Int32) (vs1 &&& (2147483647 : Int32))) else (own_maxi (1 : Int32) (vs2 &&& (2147483647 : Int32))))), .val (.long (if vq2 < (0 : Int64) then (own_maxj (1 : Int64) (vq1 &&& (9223372036854775807 : Int64))) else (own_maxj (1 : Int64) (vq2 &&& (9223372036854775807 : Int64))))), .second, .unset, .unset, .unset, .unset, .unset] [(.long vp2)])) rfl (hb hby at_87) ?_
        show Steps p.tables e below (T10.setTop (mkF m 90 #[.val (.int vs1), .val (.long vq1), .second, .val (.long vp1), .second, .val (.int vs2), .val (.long vq2), .second, .val (.long vp2), .second, .val (.int (own_maxi (1 : Int32) (vs1 &&& (2147483647 : Int32)))), .val (.long (own_maxj (1 : Int64) (vq1 &&& (9223372036854775807 : Int64)))), .second, .val (.long (vp1 &&& (9223372036854775807 : Int64))), .second, .val (.int (if vs2 < (0 : Int32) then (own_maxi (1 : Int32) (vs1 &&& (2147483647 : Int32))) else (own_maxi (1 : Int32) (vs2 &&& (2147483647 : Int32))))), .val (.long (if vq2 < (0 : Int64) then (own_maxj (1 : Int64) (vq1 &&& (9223372036854775807 : Int64))) else (own_maxj (1 : Int64) (vq2 &&& (9223372036854775807 : Int64))))), .second, .unset, .unset, .unset, .unset, .unset] [(.long (9223372036854775807 : Int64)), (.long vp2)])) _
        refine XS.land X10.here hx rfl (hb hby at_90) rfl ?_
        exact kt
      exact ⟨T10, _, X10, e10, N10, fun t kt => by
        simp only [if_neg hc17] at kt
        exact pre19 t kt⟩
  have pre20 : ∀ t, Steps p.tables e below (T16.setTop (mkF m 93 #[.val (.int vs1), .val (.long vq1), .second, .val (.long vp1), .second, .val (.int vs2), .val (.long vq2), .second, .val (.long vp2), .second, .val (.int (own_maxi (1 : Int32) (vs1 &&& (2147483647 : Int32)))), .val (.long (own_maxj (1 : Int64) (vq1 &&& (9223372036854775807 : Int64)))), .second, .val (.long (vp1 &&& (9223372036854775807 : Int64))), .second, .val (.int (if vs2 < (0 : Int32) then (own_maxi (1 : Int32) (vs1 &&& (2147483647 : Int32))) else (own_maxi (1 : Int32) (vs2 &&& (2147483647 : Int32))))), .val (.long (if vq2 < (0 : Int64) then (own_maxj (1 : Int64) (vq1 &&& (9223372036854775807 : Int64))) else (own_maxj (1 : Int64) (vq2 &&& (9223372036854775807 : Int64))))), .second, .val (.long (if vp2 < (0 : Int64) then (vp1 &&& (9223372036854775807 : Int64)) else (vp2 &&& (9223372036854775807 : Int64)))), .second, .unset, .unset, .unset] [])) t → Steps p.tables e below (s₁.setTop (entryFrame m #[(.int vs1), (.long vq1), (.long vp1), (.int vs2), (.long vq2), (.long vp2)] maxLocals)) t := by
    intro t kt
    refine pre16 t ?_
    show Steps p.tables e below (T16.setTop (mkF m 91 #[.val (.int vs1), .val (.long vq1), .second, .val (.long vp1), .second, .val (.int vs2), .val (.long vq2), .second, .val (.long vp2), .second, .val (.int (own_maxi (1 : Int32) (vs1 &&& (2147483647 : Int32)))), .val (.long (own_maxj (1 : Int64) (vq1 &&& (9223372036854775807 : Int64)))), .second, .val (.long (vp1 &&& (9223372036854775807 : Int64))), .second, .val (.int (if vs2 < (0 : Int32) then (own_maxi (1 : Int32) (vs1 &&& (2147483647 : Int32))) else (own_maxi (1 : Int32) (vs2 &&& (2147483647 : Int32))))), .val (.long (if vq2 < (0 : Int64) then (own_maxj (1 : Int64) (vq1 &&& (9223372036854775807 : Int64))) else (own_maxj (1 : Int64) (vq2 &&& (9223372036854775807 : Int64))))), .second, .unset, .unset, .unset, .unset, .unset] [(.long (if vp2 < (0 : Int64) then (vp1 &&& (9223372036854775807 : Int64)) else (vp2 &&& (9223372036854775807 : Int64))))])) _
    refine XS.lstore X16.here hx rfl (hb hby at_91) rfl (l' := #[.val (.int vs1), .val (.long vq1), .second, .val (.long vp1), .second, .val (.int vs2), .val (.long vq2), .second, .val (.long vp2), .second, .val (.int (own_maxi (1 : Int32) (vs1 &&& (2147483647 : Int32)))), .val (.long (own_maxj (1 : Int64) (vq1 &&& (9223372036854775807 : Int64)))), .second, .val (.long (vp1 &&& (9223372036854775807 : Int64))), .second, .val (.int (if vs2 < (0 : Int32) then (own_maxi (1 : Int32) (vs1 &&& (2147483647 : Int32))) else (own_maxi (1 : Int32) (vs2 &&& (2147483647 : Int32))))), .val (.long (if vq2 < (0 : Int64) then (own_maxj (1 : Int64) (vq1 &&& (9223372036854775807 : Int64))) else (own_maxj (1 : Int64) (vq2 &&& (9223372036854775807 : Int64))))), .second, .val (.long (if vp2 < (0 : Int64) then (vp1 &&& (9223372036854775807 : Int64)) else (vp2 &&& (9223372036854775807 : Int64)))), .second, .unset, .unset, .unset]) rfl ?_
    exact kt
  obtain ⟨sa, hsa⟩ : ∃ z : Int32, z = (own_maxi (1 : Int32) (vs1 &&& (2147483647 : Int32))) := ⟨_, rfl⟩
  obtain ⟨sb, hsb⟩ : ∃ z : Int32, z = (if vs2 < (0 : Int32) then (own_maxi (1 : Int32) (vs1 &&& (2147483647 : Int32))) else (own_maxi (1 : Int32) (vs2 &&& (2147483647 : Int32)))) := ⟨_, rfl⟩
  obtain ⟨qa, hqa⟩ : ∃ z : Int64, z = (own_maxj (1 : Int64) (vq1 &&& (9223372036854775807 : Int64))) := ⟨_, rfl⟩
  obtain ⟨qb, hqb⟩ : ∃ z : Int64, z = (if vq2 < (0 : Int64) then (own_maxj (1 : Int64) (vq1 &&& (9223372036854775807 : Int64))) else (own_maxj (1 : Int64) (vq2 &&& (9223372036854775807 : Int64)))) := ⟨_, rfl⟩
  obtain ⟨pa, hpa⟩ : ∃ z : Int64, z = (vp1 &&& (9223372036854775807 : Int64)) := ⟨_, rfl⟩
  obtain ⟨pb, hpb⟩ : ∃ z : Int64, z = (if vp2 < (0 : Int64) then (vp1 &&& (9223372036854775807 : Int64)) else (vp2 &&& (9223372036854775807 : Int64))) := ⟨_, rfl⟩
  rw [← hpb] at pre20
  rw [← hqb] at pre20
  rw [← hsb] at pre20
  rw [← hpa] at pre20
  rw [← hqa] at pre20
  rw [← hsa] at pre20
  have gsa : ¬ sa < (1 : Int32) := hsa ▸ own_max1 _
  have gqa : ¬ qa < (1 : Int64) := hqa ▸ own_max1J _
  have gpa : ¬ pa < (0 : Int64) := hpa ▸ own_max0 _
  have gsb : ¬ sb < (1 : Int32) := by rw [hsb]; split <;> exact own_max1 _
  have gqb : ¬ qb < (1 : Int64) := by rw [hqb]; split <;> exact own_max1J _
  have gpb : ¬ pb < (0 : Int64) := by rw [hpb]; split <;> exact own_max0 _
  obtain ⟨T21, h21, X21, e21, E21, A21, D21, -, st21⟩ := newO X16 hx hZ hown (hw _ (List.mem_of_getElem? (i := 9) rfl)) (hw _ (List.mem_of_getElem? (i := 10) rfl)) (hw _ (List.mem_of_getElem? (i := 11) rfl)) e16 (g := (mkF m 93 #[.val (.int vs1), .val (.long vq1), .second, .val (.long vp1), .second, .val (.int vs2), .val (.long vq2), .second, .val (.long vp2), .second, .val (.int sa), .val (.long qa), .second, .val (.long pa), .second, .val (.int sb), .val (.long qb), .second, .val (.long pb), .second, .unset, .unset, .unset] [])) rfl (hb hby at_93) (by decide) (by decide)
  obtain ⟨b21, g21⟩ : ∃ z, z = h0.size := ⟨_, rfl⟩
  rw [← g21] at A21 D21 st21
  have g_b21 : n0 ≤ b21 := Nat.le_trans Z0 (Nat.le_of_eq g21.symm)
  have sz_b21 : h0.size ≤ b21 := Nat.le_trans (Keep.refl h0 []).1 (Nat.le_of_eq g21.symm)
  have Z21 : n0 ≤ h21.size := Nat.le_trans Z0 E21.1
  have K21 : Keep h0 h21 [] := (Keep.refl h0 []).ext E21
  have F21_sender : Fld Z h21 b21 "com/example/causeline/causeline/core/MessageId" "sender" "I" (.int (0 : Int32)) := D21 (Or.inr (hw _ (List.mem_of_getElem? (i := 24) rfl))) (ty := .int) (by decide)
  have F21_sequence : Fld Z h21 b21 "com/example/causeline/causeline/core/MessageId" "sequence" "J" (.long (0 : Int64)) := D21 (Or.inr (hw _ (List.mem_of_getElem? (i := 26) rfl))) (ty := .long) (by decide)
  have F21_position : Fld Z h21 b21 "com/example/causeline/causeline/core/MessageId" "position" "J" (.long (0 : Int64)) := D21 (Or.inr (hw _ (List.mem_of_getElem? (i := 28) rfl))) (ty := .long) (by decide)
  obtain ⟨_, _, ⟨T22, L22, k22, n22⟩, -, X22, ⟨Lc22, hQ22, l22, y22, z22⟩, st22⟩ := X21.specialBack hx (y := (⟨"com/example/causeline/causeline/core/MessageId", "<init>", "(IJJ)V"⟩ : MethodName)) rfl hown (mvT hZ (hw _ (List.mem_of_getElem? (i := 12) rfl))) (mvT hZ (hw _ (List.mem_of_getElem? (i := 13) rfl))) (mvT hZ (hw _ (List.mem_of_getElem? (i := 14) rfl))) (by decide) (backOf (W := 1) (rm3 l Z a0 hw [] b21 sa qa pa  h21 n0 Z21 A21 F21_sender F21_sequence F21_position g_b21 gsa gqa gpa) hZ (hw _ (List.mem_of_getElem? (i := 14) rfl)) (hw _ (List.mem_of_getElem? (i := 11) rfl)) (by decide) (by decide)) (g := (mkF m 103 #[.val (.int vs1), .val (.long vq1), .second, .val (.long vp1), .second, .val (.int vs2), .val (.long vq2), .second, .val (.long vp2), .second, .val (.int sa), .val (.long qa), .second, .val (.long pa), .second, .val (.int sb), .val (.long qb), .second, .val (.long pb), .second, .unset, .unset, .unset] [(.long pa), (.long qa), (.int sa), (.ref b21), (.ref b21)])) rfl (by rw [hml]; rfl) (Steps.refl _) (a := b21) (argsL := [(.int sa), (.long qa), (.long pa)]) (rest := [(.ref b21)]) (lenOf pd_4 rfl) rfl (by show 2 * 0 + _ ≤ _; exact Nat.le_of_eq rfl) (hb hby at_103) (fun _ _ => ⟨rfl, e21, (by decide : 1 + 0 ≤ _), (by decide : 3 + 0 ≤ _)⟩)
  dsimp only [Pt.U, Pt.locs, Pt.cells, Pt.slots] at X22 l22 y22 z22 st22 hQ22
  subst l22 y22 z22
  obtain ⟨rfl, N22q, K22q, f22_0, f22_1, f22_2, f22_3⟩ := hQ22
  have N22 := Fr.app N16 N22q
  have Z22 : n0 ≤ T22.heap.size := Nat.le_trans Z21 K22q.1
  have c23 : Exa Z T22.heap b21 "com/example/causeline/causeline/core/MessageId" := A21.keep K22q
  have K22 : Keep h0 T22.heap [] := K21.trans K22q (allS (Or.inr sz_b21) all0)
  obtain ⟨T24, h24, X24, e24, E24, A24, D24, -, st24⟩ := newO X22 hx hZ hown (hw _ (List.mem_of_getElem? (i := 9) rfl)) (hw _ (List.mem_of_getElem? (i := 10) rfl)) (hw _ (List.mem_of_getElem? (i := 11) rfl)) rfl (g := (mkF m 108 #[.val (.int vs1), .val (.long vq1), .second, .val (.long vp1), .second, .val (.int vs2), .val (.long vq2), .second, .val (.long vp2), .second, .val (.int sa), .val (.long qa), .second, .val (.long pa), .second, .val (.int sb), .val (.long qb), .second, .val (.long pb), .second, .val (.ref b21), .unset, .unset] [])) rfl (hb hby at_108) (by decide) (by decide)
  obtain ⟨b24, g24⟩ : ∃ z, z = T22.heap.size := ⟨_, rfl⟩
  rw [← g24] at A24 D24 st24
  have ne25 : b21 ≠ b24 := Nat.ne_of_lt (Nat.lt_of_lt_of_le f22_0.lt (Nat.le_of_eq g24.symm))
  have c26 : Exa Z h24 b21 "com/example/causeline/causeline/core/MessageId" := f22_0.ext E24
  have c27 : Fld Z h24 b21 "com/example/causeline/causeline/core/MessageId" "sender" "I" (.int sa) := f22_1.ext E24
  have c28 : Fld Z h24 b21 "com/example/causeline/causeline/core/MessageId" "sequence" "J" (.long qa) := f22_2.ext E24
  have c29 : Fld Z h24 b21 "com/example/causeline/causeline/core/MessageId" "position" "J" (.long pa) := f22_3.ext E24
  have g_b24 : n0 ≤ b24 := Nat.le_trans Z22 (Nat.le_of_eq g24.symm)
  have sz_b24 : h0.size ≤ b24 := Nat.le_trans K22.1 (Nat.le_of_eq g24.symm)
  have Z24 : n0 ≤ h24.size := Nat.le_trans Z22 E24.1
  have K24 : Keep h0 h24 [] := K22.ext E24
  have F24_sender : Fld Z h24 b24 "com/example/causeline/causeline/core/MessageId" "sender" "I" (.int (0 : Int32)) := D24 (Or.inr (hw _ (List.mem_of_getElem? (i := 24) rfl))) (ty := .int) (by decide)
  have F24_sequence : Fld Z h24 b24 "com/example/causeline/causeline/core/MessageId" "sequence" "J" (.long (0 : Int64)) := D24 (Or.inr (hw _ (List.mem_of_getElem? (i := 26) rfl))) (ty := .long) (by decide)
  have F24_position : Fld Z h24 b24 "com/example/causeline/causeline/core/MessageId" "position" "J" (.long (0 : Int64)) := D24 (Or.inr (hw _ (List.mem_of_getElem? (i := 28) rfl))) (ty := .long) (by decide)
  obtain ⟨_, _, ⟨T30, L30, k30, n30⟩, -, X30, ⟨Lc30, hQ30, l30, y30, z30⟩, st30⟩ := X24.specialBack hx (y := (⟨"com/example/causeline/causeline/core/MessageId", "<init>", "(IJJ)V"⟩ : MethodName)) rfl hown (mvT hZ (hw _ (List.mem_of_getElem? (i := 12) rfl))) (mvT hZ (hw _ (List.mem_of_getElem? (i := 13) rfl))) (mvT hZ (hw _ (List.mem_of_getElem? (i := 14) rfl))) (by decide) (backOf (W := 1) (rm3 l Z a0 hw [] b24 sb qb pb  h24 n0 Z24 A24 F24_sender F24_sequence F24_position g_b24 gsb gqb gpb) hZ (hw _ (List.mem_of_getElem? (i := 14) rfl)) (hw _ (List.mem_of_getElem? (i := 11) rfl)) (by decide) (by decide)) (g := (mkF m 118 #[.val (.int vs1), .val (.long vq1), .second, .val (.long vp1), .second, .val (.int vs2), .val (.long vq2), .second, .val (.long vp2), .second, .val (.int sa), .val (.long qa), .second, .val (.long pa), .second, .val (.int sb), .val (.long qb), .second, .val (.long pb), .second, .val (.ref b21), .unset, .unset] [(.long pb), (.long qb), (.int sb), (.ref b24), (.ref b24)])) rfl (by rw [hml]; rfl) (Steps.refl _) (a := b24) (argsL := [(.int sb), (.long qb), (.long pb)]) (rest := [(.ref b24)]) (lenOf pd_4 rfl) rfl (by show 2 * 0 + _ ≤ _; exact Nat.le_of_eq rfl) (hb hby at_118) (fun _ _ => ⟨rfl, e24, (by decide : 2 + 0 ≤ _), (by decide : 6 + 0 ≤ _)⟩)
  dsimp only [Pt.U, Pt.locs, Pt.cells, Pt.slots] at X30 l30 y30 z30 st30 hQ30
  subst l30 y30 z30
  obtain ⟨rfl, N30q, K30q, f30_0, f30_1, f30_2, f30_3⟩ := hQ30
  have N30 := Fr.app N22 N30q
  have Z30 : n0 ≤ T30.heap.size := Nat.le_trans Z24 K30q.1
  have c31 : Exa Z T30.heap b21 "com/example/causeline/causeline/core/MessageId" := c26.keep K30q
  have c32 : Fld Z T30.heap b21 "com/example/causeline/causeline/core/MessageId" "sender" "I" (.int sa) := c27.keep K30q (ninS ne25 nin0)
  have c33 : Fld Z T30.heap b21 "com/example/causeline/causeline/core/MessageId" "sequence" "J" (.long qa) := c28.keep K30q (ninS ne25 nin0)
  have c34 : Fld Z T30.heap b21 "com/example/causeline/causeline/core/MessageId" "position" "J" (.long pa) := c29.keep K30q (ninS ne25 nin0)
  have c35 : Exa Z T30.heap b24 "com/example/causeline/causeline/core/MessageId" := A24.keep K30q
  have K30 : Keep h0 T30.heap [] := K24.trans K30q (allS (Or.inr sz_b24) all0)
  obtain ⟨cq36, kq36, q36a, q36b, q36c⟩ := isOf hZ rfl c31
  obtain ⟨_, _, ⟨T36, L36, k36, n36⟩, -, X36, ⟨Lc36, hQ36, l36, y36, z36⟩, st36⟩ := X30.virtualBack hx (y := (⟨"com/example/causeline/causeline/core/MessageId", "equals", "(Ljava/lang/Object;)Z"⟩ : MethodName)) (z := (⟨"com/example/causeline/causeline/core/MessageId", "equals", "(Ljava/lang/Object;)Z"⟩ : MethodName)) hown (mvT hZ (hw _ (List.mem_of_getElem? (i := 29) rfl))) (mvT hZ (hw _ (List.mem_of_getElem? (i := 30) rfl))) (notFace_of_selects (args := #[]) (mvT hZ (hw _ (List.mem_of_getElem? (i := 32) rfl)))) (mvT hZ (hw _ (List.mem_of_getElem? (i := 32) rfl))) (mvT hZ (hw _ (List.mem_of_getElem? (i := 31) rfl))) (by decide) (backOf (W := 0) (rm6 l Z a0 hw [] b21 b21 sa qa pa sa qa pa T30.heap n0 Z30 c31 c32 c33 c34 c31 c32 c33 c34) hZ (hw _ (List.mem_of_getElem? (i := 33) rfl)) (hw _ (List.mem_of_getElem? (i := 11) rfl)) (by decide) (by decide)) q36a q36c (g := (mkF m 127 #[.val (.int vs1), .val (.long vq1), .second, .val (.long vp1), .second, .val (.int vs2), .val (.long vq2), .second, .val (.long vp2), .second, .val (.int sa), .val (.long qa), .second, .val (.long pa), .second, .val (.int sb), .val (.long qb), .second, .val (.long pb), .second, .val (.ref b21), .val (.ref b24), .unset] [(.ref b21), (.ref b21)])) rfl (by rw [hml]; rfl) (Steps.refl _) (argsL := [(.ref b21)]) (rest := []) (lenOf pd_5 rfl) rfl (by show 2 * 0 + _ ≤ _; exact Nat.le_of_eq rfl) (hb hby at_127) (fun _ _ => ⟨rfl, rfl, (by decide : 2 + 0 ≤ _), (by decide : 6 + 0 ≤ _)⟩)
  dsimp only [Pt.U, Pt.locs, Pt.cells, Pt.slots] at X36 l36 y36 z36 st36 hQ36
  subst l36 y36 z36
  obtain ⟨rfl, N36q, e36q⟩ := hQ36
  have N36 := Fr.app N30 N36q
  have pre37 : ∀ t, Steps p.tables e below (T36.setTop (mkF m 136 #[.val (.int vs1), .val (.long vq1), .second, .val (.long vp1), .second, .val (.int vs2), .val (.long vq2), .second, .val (.long vp2), .second, .val (.int sa), .val (.long qa), .second, .val (.long pa), .second, .val (.int sb), .val (.long qb), .second, .val (.long pb), .second, .val (.ref b21), .val (.ref b24), .unset] [(.int vs1)])) t → Steps p.tables e below (s₁.setTop (entryFrame m #[(.int vs1), (.long vq1), (.long vp1), (.int vs2), (.long vq2), (.long vp2)] maxLocals)) t := by
    intro t kt
    refine pre20 t ?_
    show Steps p.tables e below (T16.setTop (mkF m 93 #[.val (.int vs1), .val (.long vq1), .second, .val (.long vp1), .second, .val (.int vs2), .val (.long vq2), .second, .val (.long vp2), .second, .val (.int sa), .val (.long qa), .second, .val (.long pa), .second, .val (.int sb), .val (.long qb), .second, .val (.long pb), .second, .unset, .unset, .unset] [])) _
    refine st21 _ ?_
    show Steps p.tables e below (T21.setTop (mkF m 96 #[.val (.int vs1), .val (.long vq1), .second, .val (.long vp1), .second, .val (.int vs2), .val (.long vq2), .second, .val (.long vp2), .second, .val (.int sa), .val (.long qa), .second, .val (.long pa), .second, .val (.int sb), .val (.long qb), .second, .val (.long pb), .second, .unset, .unset, .unset] [(.ref b21)])) _
    refine XS.dup X21.here hx rfl (hb hby at_96) rfl rfl ?_
    show Steps p.tables e below (T21.setTop (mkF m 97 #[.val (.int vs1), .val (.long vq1), .second, .val (.long vp1), .second, .val (.int vs2), .val (.long vq2), .second, .val (.long vp2), .second, .val (.int sa), .val (.long qa), .second, .val (.long pa), .second, .val (.int sb), .val (.long qb), .second, .val (.long pb), .second, .unset, .unset, .unset] [(.ref b21), (.ref b21)])) _
    refine XS.iload X21.here hx rfl (hb hby at_97) rfl ?_
    show Steps p.tables e below (T21.setTop (mkF m 99 #[.val (.int vs1), .val (.long vq1), .second, .val (.long vp1), .second, .val (.int vs2), .val (.long vq2), .second, .val (.long vp2), .second, .val (.int sa), .val (.long qa), .second, .val (.long pa), .second, .val (.int sb), .val (.long qb), .second, .val (.long pb), .second, .unset, .unset, .unset] [(.int sa), (.ref b21), (.ref b21)])) _
    refine XS.lload X21.here hx rfl (hb hby at_99) rfl ?_
    show Steps p.tables e below (T21.setTop (mkF m 101 #[.val (.int vs1), .val (.long vq1), .second, .val (.long vp1), .second, .val (.int vs2), .val (.long vq2), .second, .val (.long vp2), .second, .val (.int sa), .val (.long qa), .second, .val (.long pa), .second, .val (.int sb), .val (.long qb), .second, .val (.long pb), .second, .unset, .unset, .unset] [(.long qa), (.int sa), (.ref b21), (.ref b21)])) _
    refine XS.lload X21.here hx rfl (hb hby at_101) rfl ?_
    show Steps p.tables e below (T21.setTop (mkF m 103 #[.val (.int vs1), .val (.long vq1), .second, .val (.long vp1), .second, .val (.int vs2), .val (.long vq2), .second, .val (.long vp2), .second, .val (.int sa), .val (.long qa), .second, .val (.long pa), .second, .val (.int sb), .val (.long qb), .second, .val (.long pb), .second, .unset, .unset, .unset] [(.long pa), (.long qa), (.int sa), (.ref b21), (.ref b21)])) _
    refine st22.trans ?_
    show Steps p.tables e below (T22.setTop (mkF m 106 #[.val (.int vs1), .val (.long vq1), .second, .val (.long vp1), .second, .val (.int vs2), .val (.long vq2), .second, .val (.long vp2), .second, .val (.int sa), .val (.long qa), .second, .val (.long pa), .second, .val (.int sb), .val (.long qb), .second, .val (.long pb), .second, .unset, .unset, .unset] [(.ref b21)])) _
    refine XS.astore X22.here hx rfl (hb hby at_106) rfl rfl (l' := #[.val (.int vs1), .val (.long vq1), .second, .val (.long vp1), .second, .val (.int vs2), .val (.long vq2), .second, .val (.long vp2), .second, .val (.int sa), .val (.long qa), .second, .val (.long pa), .second, .val (.int sb), .val (.long qb), .second, .val (.long pb), .second, .val (.ref b21), .unset, .unset]) rfl ?_
    show Steps p.tables e below (T22.setTop (mkF m 108 #[.val (.int vs1), .val (.long vq1), .second, .val (.long vp1), .second, .val (.int vs2), .val (.long vq2), .second, .val (.long vp2), .second, .val (.int sa), .val (.long qa), .second, .val (.long pa), .second, .val (.int sb), .val (.long qb), .second, .val (.long pb), .second, .val (.ref b21), .unset, .unset] [])) _
    refine st24 _ ?_
    show Steps p.tables e below (T24.setTop (mkF m 111 #[.val (.int vs1), .val (.long vq1), .second, .val (.long vp1), .second, .val (.int vs2), .val (.long vq2), .second, .val (.long vp2), .second, .val (.int sa), .val (.long qa), .second, .val (.long pa), .second, .val (.int sb), .val (.long qb), .second, .val (.long pb), .second, .val (.ref b21), .unset, .unset] [(.ref b24)])) _
    refine XS.dup X24.here hx rfl (hb hby at_111) rfl rfl ?_
    show Steps p.tables e below (T24.setTop (mkF m 112 #[.val (.int vs1), .val (.long vq1), .second, .val (.long vp1), .second, .val (.int vs2), .val (.long vq2), .second, .val (.long vp2), .second, .val (.int sa), .val (.long qa), .second, .val (.long pa), .second, .val (.int sb), .val (.long qb), .second, .val (.long pb), .second, .val (.ref b21), .unset, .unset] [(.ref b24), (.ref b24)])) _
    refine XS.iload X24.here hx rfl (hb hby at_112) rfl ?_
    show Steps p.tables e below (T24.setTop (mkF m 114 #[.val (.int vs1), .val (.long vq1), .second, .val (.long vp1), .second, .val (.int vs2), .val (.long vq2), .second, .val (.long vp2), .second, .val (.int sa), .val (.long qa), .second, .val (.long pa), .second, .val (.int sb), .val (.long qb), .second, .val (.long pb), .second, .val (.ref b21), .unset, .unset] [(.int sb), (.ref b24), (.ref b24)])) _
    refine XS.lload X24.here hx rfl (hb hby at_114) rfl ?_
    show Steps p.tables e below (T24.setTop (mkF m 116 #[.val (.int vs1), .val (.long vq1), .second, .val (.long vp1), .second, .val (.int vs2), .val (.long vq2), .second, .val (.long vp2), .second, .val (.int sa), .val (.long qa), .second, .val (.long pa), .second, .val (.int sb), .val (.long qb), .second, .val (.long pb), .second, .val (.ref b21), .unset, .unset] [(.long qb), (.int sb), (.ref b24), (.ref b24)])) _
    refine XS.lload X24.here hx rfl (hb hby at_116) rfl ?_
    show Steps p.tables e below (T24.setTop (mkF m 118 #[.val (.int vs1), .val (.long vq1), .second, .val (.long vp1), .second, .val (.int vs2), .val (.long vq2), .second, .val (.long vp2), .second, .val (.int sa), .val (.long qa), .second, .val (.long pa), .second, .val (.int sb), .val (.long qb), .second, .val (.long pb), .second, .val (.ref b21), .unset, .unset] [(.long pb), (.long qb), (.int sb), (.ref b24), (.ref b24)])) _
    refine st30.trans ?_
    show Steps p.tables e below (T30.setTop (mkF m 121 #[.val (.int vs1), .val (.long vq1), .second, .val (.long vp1), .second, .val (.int vs2), .val (.long vq2), .second, .val (.long vp2), .second, .val (.int sa), .val (.long qa), .second, .val (.long pa), .second, .val (.int sb), .val (.long qb), .second, .val (.long pb), .second, .val (.ref b21), .unset, .unset] [(.ref b24)])) _
    refine XS.astore X30.here hx rfl (hb hby at_121) rfl rfl (l' := #[.val (.int vs1), .val (.long vq1), .second, .val (.long vp1), .second, .val (.int vs2), .val (.long vq2), .second, .val (.long vp2), .second, .val (.int sa), .val (.long qa), .second, .val (.long pa), .second, .val (.int sb), .val (.long qb), .second, .val (.long pb), .second, .val (.ref b21), .val (.ref b24), .unset]) rfl ?_
    show Steps p.tables e below (T30.setTop (mkF m 123 #[.val (.int vs1), .val (.long vq1), .second, .val (.long vp1), .second, .val (.int vs2), .val (.long vq2), .second, .val (.long vp2), .second, .val (.int sa), .val (.long qa), .second, .val (.long pa), .second, .val (.int sb), .val (.long qb), .second, .val (.long pb), .second, .val (.ref b21), .val (.ref b24), .unset] [])) _
    refine XS.aload X30.here hx rfl (hb hby at_123) rfl rfl ?_
    show Steps p.tables e below (T30.setTop (mkF m 125 #[.val (.int vs1), .val (.long vq1), .second, .val (.long vp1), .second, .val (.int vs2), .val (.long vq2), .second, .val (.long vp2), .second, .val (.int sa), .val (.long qa), .second, .val (.long pa), .second, .val (.int sb), .val (.long qb), .second, .val (.long pb), .second, .val (.ref b21), .val (.ref b24), .unset] [(.ref b21)])) _
    refine XS.aload X30.here hx rfl (hb hby at_125) rfl rfl ?_
    show Steps p.tables e below (T30.setTop (mkF m 127 #[.val (.int vs1), .val (.long vq1), .second, .val (.long vp1), .second, .val (.int vs2), .val (.long vq2), .second, .val (.long vp2), .second, .val (.int sa), .val (.long qa), .second, .val (.long pa), .second, .val (.int sb), .val (.long qb), .second, .val (.long pb), .second, .val (.ref b21), .val (.ref b24), .unset] [(.ref b21), (.ref b21)])) _
    refine st36.trans ?_
    show Steps p.tables e below (T36.setTop (mkF m 130 #[.val (.int vs1), .val (.long vq1), .second, .val (.long vp1), .second, .val (.int vs2), .val (.long vq2), .second, .val (.long vp2), .second, .val (.int sa), .val (.long qa), .second, .val (.long pa), .second, .val (.int sb), .val (.long qb), .second, .val (.long pb), .second, .val (.ref b21), .val (.ref b24), .unset] [(.int (own_eq b21 b21 sa qa pa sa qa pa))])) _
    refine XS.ifYes X36.here hx rfl (pc0 := 130) (pc' := 135) rfl (hb hby at_130) rfl ((if0 _ _).trans (feq ((by rw [own_eq_self]; decide) : ¬ ((own_eq b21 b21 sa qa pa sa qa pa) = (0 : Int32)))).2) (by decide) (by decide) ?_
    show Steps p.tables e below (T36.setTop (mkF m 135 #[.val (.int vs1), .val (.long vq1), .second, .val (.long vp1), .second, .val (.int vs2), .val (.long vq2), .second, .val (.long vp2), .second, .val (.int sa), .val (.long qa), .second, .val (.long pa), .second, .val (.int sb), .val (.long qb), .second, .val (.long pb), .second, .val (.ref b21), .val (.ref b24), .unset] [])) _
    refine XS.iloadN X36.here hx rfl (hb hby at_135) rfl ?_
    exact kt
  by_cases hc38 : vs1 < (0 : Int32)
  ·
    have pre39 : ∀ t, Steps p.tables e below (T36.setTop (mkF m 142 #[.val (.int vs1), .val (.long vq1), .second, .val (.long vp1), .second, .val (.int vs2), .val (.long vq2), .second, .val (.long vp2), .second, .val (.int sa), .val (.long qa), .second, .val (.long pa), .second, .val (.int sb), .val (.long qb), .second, .val (.long pb), .second, .val (.ref b21), .val (.ref b24), .unset] [(.int (lcmpW vp1 (0 : Int64)))])) t → Steps p.tables e below (s₁.setTop (entryFrame m #[(.int vs1), (.long vq1), (.long vp1), (.int vs2), (.long vq2), (.long vp2)] maxLocals)) t := by
      intro t kt
      refine pre37 t ?_
      show Steps p.tables e below (T36.setTop (mkF m 136 #[.val (.int vs1), .val (.long vq1), .second, .val (.long vp1), .second, .val (.int vs2), .val (.long vq2), .second, .val (.long vp2), .second, .val (.int sa), .val (.long qa), .second, .val (.long pa), .second, .val (.int sb), .val (.long qb), .second, .val (.long pb), .second, .val (.ref b21), .val (.ref b24), .unset] [(.int vs1)])) _
      refine XS.ifNo X36.here hx rfl (hb hby at_136) rfl ((if0 _ _).trans (tlt (hc38 : vs1 < (0 : Int32))).2.1) ?_
      show Steps p.tables e below (T36.setTop (mkF m 139 #[.val (.int vs1), .val (.long vq1), .second, .val (.long vp1), .second, .val (.int vs2), .val (.long vq2), .second, .val (.long vp2), .second, .val (.int sa), .val (.long qa), .second, .val (.long pa), .second, .val (.int sb), .val (.long qb), .second, .val (.long pb), .second, .val (.ref b21), .val (.ref b24), .unset] [])) _
      refine XS.lloadN X36.here hx rfl (hb hby at_139) rfl ?_
      show Steps p.tables e below (T36.setTop (mkF m 140 #[.val (.int vs1), .val (.long vq1), .second, .val (.long vp1), .second, .val (.int vs2), .val (.long vq2), .second, .val (.long vp2), .second, .val (.int sa), .val (.long qa), .second, .val (.long pa), .second, .val (.int sb), .val (.long qb), .second, .val (.long pb), .second, .val (.ref b21), .val (.ref b24), .unset] [(.long vp1)])) _
      refine XS.lconst X36.here hx rfl (hb hby at_140) ?_
      show Steps p.tables e below (T36.setTop (mkF m 141 #[.val (.int vs1), .val (.long vq1), .second, .val (.long vp1), .second, .val (.int vs2), .val (.long vq2), .second, .val (.long vp2), .second, .val (.int sa), .val (.long qa), .second, .val (.long pa), .second, .val (.int sb), .val (.long qb), .second, .val (.long pb), .second, .val (.ref b21), .val (.ref b24), .unset] [(.long (0 : Int64)), (.long vp1)])) _
      refine XS.lcmp X36.here hx rfl (hb hby at_141) rfl ?_
      exact kt
    by_cases hc40 : vp1 < (0 : Int64)
    ·
      have pre41 : ∀ t, Steps p.tables e below (T36.setTop (mkF m 148 #[.val (.int vs1), .val (.long vq1), .second, .val (.long vp1), .second, .val (.int vs2), .val (.long vq2), .second, .val (.long vp2), .second, .val (.int sa), .val (.long qa), .second, .val (.long pa), .second, .val (.int sb), .val (.long qb), .second, .val (.long pb), .second, .val (.ref b21), .val (.ref b24), .unset] [(.int (lcmpW vq1 (0 : Int64)))])) t → Steps p.tables e below (s₁.setTop (entryFrame m #[(.int vs1), (.long vq1), (.long vp1), (.int vs2), (.long vq2), (.long vp2)] maxLocals)) t := by
        intro t kt
        refine pre39 t ?_
        show Steps p.tables e below (T36.setTop (mkF m 142 #[.val (.int vs1), .val (.long vq1), .second, .val (.long vp1), .second, .val (.int vs2), .val (.long vq2), .second, .val (.long vp2), .second, .val (.int sa), .val (.long qa), .second, .val (.long pa), .second, .val (.int sb), .val (.long qb), .second, .val (.long pb), .second, .val (.ref b21), .val (.ref b24), .unset] [(.int (lcmpW vp1 (0 : Int64)))])) _
        refine XS.ifNo X36.here hx rfl (hb hby at_142) rfl ((if0 _ _).trans (tlt (((lw_lt _ _).mpr hc40) : (lcmpW vp1 (0 : Int64)) < (0 : Int32))).2.1) ?_
        show Steps p.tables e below (T36.setTop (mkF m 145 #[.val (.int vs1), .val (.long vq1), .second, .val (.long vp1), .second, .val (.int vs2), .val (.long vq2), .second, .val (.long vp2), .second, .val (.int sa), .val (.long qa), .second, .val (.long pa), .second, .val (.int sb), .val (.long qb), .second, .val (.long pb), .second, .val (.ref b21), .val (.ref b24), .unset] [])) _
        refine XS.lloadN X36.here hx rfl (hb hby at_145) rfl ?_
        show Steps p.tables e below (T36.setTop (mkF m 146 #[.val (.int vs1), .val (.long vq1), .second, .val (.long vp1), .second, .val (.int vs2), .val (.long vq2), .second, .val (.long vp2), .second, .val (.int sa), .val (.long qa), .second, .val (.long pa), .second, .val (.int sb), .val (.long qb), .second, .val (.long pb), .second, .val (.ref b21), .val (.ref b24), .unset] [(.long vq1)])) _
        refine XS.lconst X36.here hx rfl (hb hby at_146) ?_
        show Steps p.tables e below (T36.setTop (mkF m 147 #[.val (.int vs1), .val (.long vq1), .second, .val (.long vp1), .second, .val (.int vs2), .val (.long vq2), .second, .val (.long vp2), .second, .val (.int sa), .val (.long qa), .second, .val (.long pa), .second, .val (.int sb), .val (.long qb), .second, .val (.long pb), .second, .val (.ref b21), .val (.ref b24), .unset] [(.long (0 : Int64)), (.long vq1)])) _
        refine XS.lcmp X36.here hx rfl (hb hby at_147) rfl ?_
        exact kt
      by_cases hc42 : vq1 < (0 : Int64)
      ·
        obtain ⟨cq43, kq43, q43a, q43b, q43c⟩ := isOf hZ e36q c31
        obtain ⟨_, _, ⟨T43, L43, k43, n43⟩, -, X43, ⟨Lc43, hQ43, l43, y43, z43⟩, st43⟩ := X36.virtualBack hx (y := (⟨"com/example/causeline/causeline/core/MessageId", "equals", "(Ljava/lang/Object;)Z"⟩ : MethodName)) (z := (⟨"com/example/causeline/causeline/core/MessageId", "equals", "(Ljava/lang/Object;)Z"⟩ : MethodName)) hown (mvT hZ (hw _ (List.mem_of_getElem? (i := 29) rfl))) (mvT hZ (hw _ (List.mem_of_getElem? (i := 30) rfl))) (notFace_of_selects (args := #[]) (mvT hZ (hw _ (List.mem_of_getElem? (i := 32) rfl)))) (mvT hZ (hw _ (List.mem_of_getElem? (i := 32) rfl))) (mvT hZ (hw _ (List.mem_of_getElem? (i := 31) rfl))) (by decide) (backOf (W := 0) (rmEn l Z a0 hw [] b21  T30.heap n0 Z30 ) hZ (hw _ (List.mem_of_getElem? (i := 33) rfl)) (hw _ (List.mem_of_getElem? (i := 11) rfl)) (by decide) (by decide)) q43a q43c (g := (mkF m 154 #[.val (.int vs1), .val (.long vq1), .second, .val (.long vp1), .second, .val (.int vs2), .val (.long vq2), .second, .val (.long vp2), .second, .val (.int sa), .val (.long qa), .second, .val (.long pa), .second, .val (.int sb), .val (.long qb), .second, .val (.long pb), .second, .val (.ref b21), .val (.ref b24), .unset] [.null, (.ref b21)])) rfl (by rw [hml]; rfl) (Steps.refl _) (argsL := [.null]) (rest := []) (lenOf pd_5 rfl) rfl (by show 2 * 0 + _ ≤ _; exact Nat.le_of_eq rfl) (hb hby at_154) (fun _ _ => ⟨rfl, e36q, (by decide : 2 + 0 ≤ _), (by decide : 6 + 0 ≤ _)⟩)
        dsimp only [Pt.U, Pt.locs, Pt.cells, Pt.slots] at X43 l43 y43 z43 st43 hQ43
        subst l43 y43 z43
        obtain ⟨rfl, N43q, e43q⟩ := hQ43
        have N43 := Fr.app N36 N43q
        obtain ⟨fs, hr, hrun, hended, hW, hsame⟩ := X43.leave (v := some (.int (1 : Int32))) (fun h => by rw [Bd.returns] at h; cases h)
        refine ⟨_, _, pre41 _ ?_, hrun, hended, _, _, rfl, ?_, ⟨_, rfl⟩, hW, hsame.mono (by decide) (by decide)⟩
        ·
          show Steps p.tables e below (T36.setTop (mkF m 148 #[.val (.int vs1), .val (.long vq1), .second, .val (.long vp1), .second, .val (.int vs2), .val (.long vq2), .second, .val (.long vp2), .second, .val (.int sa), .val (.long qa), .second, .val (.long pa), .second, .val (.int sb), .val (.long qb), .second, .val (.long pb), .second, .val (.ref b21), .val (.ref b24), .unset] [(.int (lcmpW vq1 (0 : Int64)))])) _
          refine XS.ifNo X36.here hx rfl (hb hby at_148) rfl ((if0 _ _).trans (tlt (((lw_lt _ _).mpr hc42) : (lcmpW vq1 (0 : Int64)) < (0 : Int32))).2.1) ?_
          show Steps p.tables e below (T36.setTop (mkF m 151 #[.val (.int vs1), .val (.long vq1), .second, .val (.long vp1), .second, .val (.int vs2), .val (.long vq2), .second, .val (.long vp2), .second, .val (.int sa), .val (.long qa), .second, .val (.long pa), .second, .val (.int sb), .val (.long qb), .second, .val (.long pb), .second, .val (.ref b21), .val (.ref b24), .unset] [])) _
          refine XS.aload X36.here hx rfl (hb hby at_151) rfl rfl ?_
          show Steps p.tables e below (T36.setTop (mkF m 153 #[.val (.int vs1), .val (.long vq1), .second, .val (.long vp1), .second, .val (.int vs2), .val (.long vq2), .second, .val (.long vp2), .second, .val (.int sa), .val (.long qa), .second, .val (.long pa), .second, .val (.int sb), .val (.long qb), .second, .val (.long pb), .second, .val (.ref b21), .val (.ref b24), .unset] [(.ref b21)])) _
          refine XS.aconstNull X36.here hx rfl (hb hby at_153) ?_
          show Steps p.tables e below (T36.setTop (mkF m 154 #[.val (.int vs1), .val (.long vq1), .second, .val (.long vp1), .second, .val (.int vs2), .val (.long vq2), .second, .val (.long vp2), .second, .val (.int sa), .val (.long qa), .second, .val (.long pa), .second, .val (.int sb), .val (.long qb), .second, .val (.long pb), .second, .val (.ref b21), .val (.ref b24), .unset] [.null, (.ref b21)])) _
          refine st43.trans ?_
          show Steps p.tables e below (T43.setTop (mkF m 157 #[.val (.int vs1), .val (.long vq1), .second, .val (.long vp1), .second, .val (.int vs2), .val (.long vq2), .second, .val (.long vp2), .second, .val (.int sa), .val (.long qa), .second, .val (.long pa), .second, .val (.int sb), .val (.long qb), .second, .val (.long pb), .second, .val (.ref b21), .val (.ref b24), .unset] [(.int (0 : Int32))])) _
          refine XS.ifNo X43.here hx rfl (hb hby at_157) rfl ((if0 _ _).trans (teq (rfl : (0 : Int32) = (0 : Int32))).2) ?_
          show Steps p.tables e below (T43.setTop (mkF m 160 #[.val (.int vs1), .val (.long vq1), .second, .val (.long vp1), .second, .val (.int vs2), .val (.long vq2), .second, .val (.long vp2), .second, .val (.int sa), .val (.long qa), .second, .val (.long pa), .second, .val (.int sb), .val (.long qb), .second, .val (.long pb), .second, .val (.ref b21), .val (.ref b24), .unset] [])) _
          refine XS.iconst X43.here hx rfl (hb hby at_160) ?_
          show Steps p.tables e below (T43.setTop (mkF m 161 #[.val (.int vs1), .val (.long vq1), .second, .val (.long vp1), .second, .val (.int vs2), .val (.long vq2), .second, .val (.long vp2), .second, .val (.int sa), .val (.long qa), .second, .val (.long pa), .second, .val (.int sb), .val (.long qb), .second, .val (.long pb), .second, .val (.ref b21), .val (.ref b24), .unset] [(.int (1 : Int32))])) _
          refine XS.goto X43.here hx rfl (pc0 := 161) (pc' := 165) rfl (hb hby at_161) (by decide) (by decide) ?_
          show Steps p.tables e below (T43.setTop (mkF m 165 #[.val (.int vs1), .val (.long vq1), .second, .val (.long vp1), .second, .val (.int vs2), .val (.long vq2), .second, .val (.long vp2), .second, .val (.int sa), .val (.long qa), .second, .val (.long pa), .second, .val (.int sb), .val (.long qb), .second, .val (.long pb), .second, .val (.ref b21), .val (.ref b24), .unset] [(.int (1 : Int32))])) _
          exact retN X43 hx (t := .boolean) Bd.returns (by simp) (hb hby at_165) hr
        ·
          show Q0 Z vs1 vq1 vp1 vs2 vq2 vp2 vc cl h0 n0 _ T43.heap _
          rw [e43q]
          exact ⟨rfl, N43⟩
      ·
        obtain ⟨_, _, ⟨T44, L44, k44, n44⟩, -, X44, ⟨Lc44, hQ44, l44, y44, z44⟩, st44⟩ := Jvm.LawKit.callS X36 hx (y := (⟨"java/lang/Integer", "valueOf", "(I)Ljava/lang/Integer;"⟩ : MethodName)) hown (mvT hZ (hw _ (List.mem_of_getElem? (i := 36) rfl))) (mvT hZ (hw _ (List.mem_of_getElem? (i := 37) rfl))) (mvT hZ (hw _ (List.mem_of_getElem? (i := 38) rfl))) (mvT hZ (hw _ (List.mem_of_getElem? (i := 39) rfl))) (by decide) (backOf (W := 1) (rm7 l Z a0 hw [] sa vc cl T30.heap n0 Z30 (own_sta_keep S_high K30) (own_sta_keep S_cache K30) (own_arr_keep Arc K30) hsz (own_el_keep hel K30)) hZ (hw _ (List.mem_of_getElem? (i := 39) rfl)) (hw _ (List.mem_of_getElem? (i := 38) rfl)) (by decide) (by decide)) (g := (mkF m 170 #[.val (.int vs1), .val (.long vq1), .second, .val (.long vp1), .second, .val (.int vs2), .val (.long vq2), .second, .val (.long vp2), .second, .val (.int sa), .val (.long qa), .second, .val (.long pa), .second, .val (.int sb), .val (.long qb), .second, .val (.long pb), .second, .val (.ref b21), .val (.ref b24), .unset] [(.int sa), (.ref b21)])) rfl (by rw [hml]; rfl) (argsL := [(.int sa)]) (rest := [(.ref b21)]) (lenOf pd_6 rfl) rfl (by show 2 * 0 + _ ≤ _; exact Nat.le_of_eq rfl) (hb hby at_170) (fun _ _ => ⟨rfl, e36q, (by decide : 2 + 1 ≤ _), (by decide : 6 + 1 ≤ _)⟩)
        dsimp only [Pt.U, Pt.locs, Pt.cells, Pt.slots] at X44 l44 y44 z44 st44 hQ44
        subst l44 y44 z44
        obtain ⟨⟨xi44, rfl, Ei44⟩, N44q, K44q⟩ := hQ44
        have N44 := Fr.app N36 N44q
        have Z44 : n0 ≤ T44.heap.size := Nat.le_trans Z30 K44q.1
        have c45 : Exa Z T44.heap b21 "com/example/causeline/causeline/core/MessageId" := c31.keep K44q
        have c46 : Fld Z T44.heap b21 "com/example/causeline/causeline/core/MessageId" "sender" "I" (.int sa) := c32.keep K44q nin0
        have c47 : Fld Z T44.heap b21 "com/example/causeline/causeline/core/MessageId" "sequence" "J" (.long qa) := c33.keep K44q nin0
        have c48 : Fld Z T44.heap b21 "com/example/causeline/causeline/core/MessageId" "position" "J" (.long pa) := c34.keep K44q nin0
        have c49 : Exa Z T44.heap b24 "com/example/causeline/causeline/core/MessageId" := f30_0.keep K44q
        have c50 : Fld Z T44.heap b24 "com/example/causeline/causeline/core/MessageId" "sender" "I" (.int sb) := f30_1.keep K44q nin0
        have c51 : Fld Z T44.heap b24 "com/example/causeline/causeline/core/MessageId" "sequence" "J" (.long qb) := f30_2.keep K44q nin0
        have c52 : Fld Z T44.heap b24 "com/example/causeline/causeline/core/MessageId" "position" "J" (.long pb) := f30_3.keep K44q nin0
        have K44 : Keep h0 T44.heap [] := K30.trans K44q all0
        obtain ⟨cq53, kq53, q53a, q53b, q53c⟩ := isOf hZ rfl c45
        obtain ⟨_, _, ⟨T53, L53, k53, n53⟩, -, X53, ⟨Lc53, hQ53, l53, y53, z53⟩, st53⟩ := X44.virtualBack hx (y := (⟨"com/example/causeline/causeline/core/MessageId", "equals", "(Ljava/lang/Object;)Z"⟩ : MethodName)) (z := (⟨"com/example/causeline/causeline/core/MessageId", "equals", "(Ljava/lang/Object;)Z"⟩ : MethodName)) hown (mvT hZ (hw _ (List.mem_of_getElem? (i := 29) rfl))) (mvT hZ (hw _ (List.mem_of_getElem? (i := 30) rfl))) (notFace_of_selects (args := #[]) (mvT hZ (hw _ (List.mem_of_getElem? (i := 32) rfl)))) (mvT hZ (hw _ (List.mem_of_getElem? (i := 32) rfl))) (mvT hZ (hw _ (List.mem_of_getElem? (i := 31) rfl))) (by decide) (backOf (W := 0) (rmEi l Z a0 hw [] b21 xi44  T44.heap n0 Z44 Ei44) hZ (hw _ (List.mem_of_getElem? (i := 33) rfl)) (hw _ (List.mem_of_getElem? (i := 11) rfl)) (by decide) (by decide)) q53a q53c (g := (mkF m 173 #[.val (.int vs1), .val (.long vq1), .second, .val (.long vp1), .second, .val (.int vs2), .val (.long vq2), .second, .val (.long vp2), .second, .val (.int sa), .val (.long qa), .second, .val (.long pa), .second, .val (.int sb), .val (.long qb), .second, .val (.long pb), .second, .val (.ref b21), .val (.ref b24), .unset] [(.ref xi44), (.ref b21)])) rfl (by rw [hml]; rfl) (Steps.refl _) (argsL := [(.ref xi44)]) (rest := []) (lenOf pd_5 rfl) rfl (by show 2 * 0 + _ ≤ _; exact Nat.le_of_eq rfl) (hb hby at_173) (fun _ _ => ⟨rfl, rfl, (by decide : 3 + 0 ≤ _), (by decide : 7 + 0 ≤ _)⟩)
        dsimp only [Pt.U, Pt.locs, Pt.cells, Pt.slots] at X53 l53 y53 z53 st53 hQ53
        subst l53 y53 z53
        obtain ⟨rfl, N53q, e53q⟩ := hQ53
        have N53 := Fr.app N44 N53q
        obtain ⟨fs, hr, hrun, hended, hW, hsame⟩ := X53.leave (v := some (.int (1 : Int32))) (fun h => by rw [Bd.returns] at h; cases h)
        refine ⟨_, _, pre41 _ ?_, hrun, hended, _, _, rfl, ?_, ⟨_, rfl⟩, hW, hsame.mono (by decide) (by decide)⟩
        ·
          show Steps p.tables e below (T36.setTop (mkF m 148 #[.val (.int vs1), .val (.long vq1), .second, .val (.long vp1), .second, .val (.int vs2), .val (.long vq2), .second, .val (.long vp2), .second, .val (.int sa), .val (.long qa), .second, .val (.long pa), .second, .val (.int sb), .val (.long qb), .second, .val (.long pb), .second, .val (.ref b21), .val (.ref b24), .unset] [(.int (lcmpW vq1 (0 : Int64)))])) _
          refine XS.ifYes X36.here hx rfl (pc0 := 148) (pc' := 166) rfl (hb hby at_148) rfl ((if0 _ _).trans (flt ((fun q => hc42 ((lw_lt _ _).mp q)) : ¬ ((lcmpW vq1 (0 : Int64)) < (0 : Int32)))).2.1) (by decide) (by decide) ?_
          show Steps p.tables e below (T36.setTop (mkF m 166 #[.val (.int vs1), .val (.long vq1), .second, .val (.long vp1), .second, .val (.int vs2), .val (.long vq2), .second, .val (.long vp2), .second, .val (.int sa), .val (.long qa), .second, .val (.long pa), .second, .val (.int sb), .val (.long qb), .second, .val (.long pb), .second, .val (.ref b21), .val (.ref b24), .unset] [])) _
          refine XS.aload X36.here hx rfl (hb hby at_166) rfl rfl ?_
          show Steps p.tables e below (T36.setTop (mkF m 168 #[.val (.int vs1), .val (.long vq1), .second, .val (.long vp1), .second, .val (.int vs2), .val (.long vq2), .second, .val (.long vp2), .second, .val (.int sa), .val (.long qa), .second, .val (.long pa), .second, .val (.int sb), .val (.long qb), .second, .val (.long pb), .second, .val (.ref b21), .val (.ref b24), .unset] [(.ref b21)])) _
          refine XS.iload X36.here hx rfl (hb hby at_168) rfl ?_
          show Steps p.tables e below (T36.setTop (mkF m 170 #[.val (.int vs1), .val (.long vq1), .second, .val (.long vp1), .second, .val (.int vs2), .val (.long vq2), .second, .val (.long vp2), .second, .val (.int sa), .val (.long qa), .second, .val (.long pa), .second, .val (.int sb), .val (.long qb), .second, .val (.long pb), .second, .val (.ref b21), .val (.ref b24), .unset] [(.int sa), (.ref b21)])) _
          refine st44 _ ?_
          show Steps p.tables e below (T44.setTop (mkF m 173 #[.val (.int vs1), .val (.long vq1), .second, .val (.long vp1), .second, .val (.int vs2), .val (.long vq2), .second, .val (.long vp2), .second, .val (.int sa), .val (.long qa), .second, .val (.long pa), .second, .val (.int sb), .val (.long qb), .second, .val (.long pb), .second, .val (.ref b21), .val (.ref b24), .unset] [(.ref xi44), (.ref b21)])) _
          refine st53.trans ?_
          show Steps p.tables e below (T53.setTop (mkF m 176 #[.val (.int vs1), .val (.long vq1), .second, .val (.long vp1), .second, .val (.int vs2), .val (.long vq2), .second, .val (.long vp2), .second, .val (.int sa), .val (.long qa), .second, .val (.long pa), .second, .val (.int sb), .val (.long qb), .second, .val (.long pb), .second, .val (.ref b21), .val (.ref b24), .unset] [(.int (0 : Int32))])) _
          refine XS.ifNo X53.here hx rfl (hb hby at_176) rfl ((if0 _ _).trans (teq (rfl : (0 : Int32) = (0 : Int32))).2) ?_
          show Steps p.tables e below (T53.setTop (mkF m 179 #[.val (.int vs1), .val (.long vq1), .second, .val (.long vp1), .second, .val (.int vs2), .val (.long vq2), .second, .val (.long vp2), .second, .val (.int sa), .val (.long qa), .second, .val (.long pa), .second, .val (.int sb), .val (.long qb), .second, .val (.long pb), .second, .val (.ref b21), .val (.ref b24), .unset] [])) _
          refine XS.iconst X53.here hx rfl (hb hby at_179) ?_
          show Steps p.tables e below (T53.setTop (mkF m 180 #[.val (.int vs1), .val (.long vq1), .second, .val (.long vp1), .second, .val (.int vs2), .val (.long vq2), .second, .val (.long vp2), .second, .val (.int sa), .val (.long qa), .second, .val (.long pa), .second, .val (.int sb), .val (.long qb), .second, .val (.long pb), .second, .val (.ref b21), .val (.ref b24), .unset] [(.int (1 : Int32))])) _
          refine XS.goto X53.here hx rfl (pc0 := 180) (pc' := 184) rfl (hb hby at_180) (by decide) (by decide) ?_
          show Steps p.tables e below (T53.setTop (mkF m 184 #[.val (.int vs1), .val (.long vq1), .second, .val (.long vp1), .second, .val (.int vs2), .val (.long vq2), .second, .val (.long vp2), .second, .val (.int sa), .val (.long qa), .second, .val (.long pa), .second, .val (.int sb), .val (.long qb), .second, .val (.long pb), .second, .val (.ref b21), .val (.ref b24), .unset] [(.int (1 : Int32))])) _
          exact retN X53 hx (t := .boolean) Bd.returns (by simp) (hb hby at_184) hr
        ·
          show Q0 Z vs1 vq1 vp1 vs2 vq2 vp2 vc cl h0 n0 _ T53.heap _
          rw [e53q]
          exact ⟨rfl, N53⟩
    ·
      have pre54 : ∀ t, Steps p.tables e below (T36.setTop (mkF m 189 #[.val (.int vs1), .val (.long vq1), .second, .val (.long vp1), .second, .val (.int vs2), .val (.long vq2), .second, .val (.long vp2), .second, .val (.int sa), .val (.long qa), .second, .val (.long pa), .second, .val (.int sb), .val (.long qb), .second, .val (.long pb), .second, .val (.ref b21), .val (.ref b24), .unset] [(.int sb), (.int sa)])) t → Steps p.tables e below (s₁.setTop (entryFrame m #[(.int vs1), (.long vq1), (.long vp1), (.int vs2), (.long vq2), (.long vp2)] maxLocals)) t := by
        intro t kt
        refine pre39 t ?_
        show Steps p.tables e below (T36.setTop (mkF m 142 #[.val (.int vs1), .val (.long vq1), .second, .val (.long vp1), .second, .val (.int vs2), .val (.long vq2), .second, .val (.long vp2), .second, .val (.int sa), .val (.long qa), .second, .val (.long pa), .second, .val (.int sb), .val (.long qb), .second, .val (.long pb), .second, .val (.ref b21), .val (.ref b24), .unset] [(.int (lcmpW vp1 (0 : Int64)))])) _
        refine XS.ifYes X36.here hx rfl (pc0 := 142) (pc' := 185) rfl (hb hby at_142) rfl ((if0 _ _).trans (flt ((fun q => hc40 ((lw_lt _ _).mp q)) : ¬ ((lcmpW vp1 (0 : Int64)) < (0 : Int32)))).2.1) (by decide) (by decide) ?_
        show Steps p.tables e below (T36.setTop (mkF m 185 #[.val (.int vs1), .val (.long vq1), .second, .val (.long vp1), .second, .val (.int vs2), .val (.long vq2), .second, .val (.long vp2), .second, .val (.int sa), .val (.long qa), .second, .val (.long pa), .second, .val (.int sb), .val (.long qb), .second, .val (.long pb), .second, .val (.ref b21), .val (.ref b24), .unset] [])) _
        refine XS.iload X36.here hx rfl (hb hby at_185) rfl ?_
        show Steps p.tables e below (T36.setTop (mkF m 187 #[.val (.int vs1), .val (.long vq1), .second, .val (.long vp1), .second, .val (.int vs2), .val (.long vq2), .second, .val (.long vp2), .second, .val (.int sa), .val (.long qa), .second, .val (.long pa), .second, .val (.int sb), .val (.long qb), .second, .val (.long pb), .second, .val (.ref b21), .val (.ref b24), .unset] [(.int sa)])) _
        refine XS.iload X36.here hx rfl (hb hby at_187) rfl ?_
        exact kt
      obtain ⟨T55, L55, X55, e55, N55, pre55⟩ : ∃ (Tm : State) (Lm : List Loc), Stand p l e room_1 s m #[(.int vs1), (.long vq1), (.long vp1), (.int vs2), (.long vq2), (.long vp2)] below meth c Tm Lm 2 6 ∧ Tm.heap = T30.heap ∧ Fr n0 Lm ∧ ∀ t, Steps p.tables e below (Tm.setTop (mkF m 213 #[.val (.int vs1), .val (.long vq1), .second, .val (.long vp1), .second, .val (.int vs2), .val (.long vq2), .second, .val (.long vp2), .second, .val (.int sa), .val (.long qa), .second, .val (.long pa), .second, .val (.int sb), .val (.long qb), .second, .val (.long pb), .second, .val (.ref b21), .val (.ref b24), .unset] [(.int (if sa = sb then (if qa = qb then (if pa = pb then (1 : Int32) else (0 : Int32)) else (0 : Int32)) else (0 : Int32)))])) t → Steps p.tables e below (s₁.setTop (entryFrame m #[(.int vs1), (.long vq1), (.long vp1), (.int vs2), (.long vq2), (.long vp2)] maxLocals)) t := by
        by_cases hc56 : sa = sb
        ·
          have pre57 : ∀ t, Steps p.tables e below (T36.setTop (mkF m 197 #[.val (.int vs1), .val (.long vq1), .second, .val (.long vp1), .second, .val (.int vs2), .val (.long vq2), .second, .val (.long vp2), .second, .val (.int sa), .val (.long qa), .second, .val (.long pa), .second, .val (.int sb), .val (.long qb), .second, .val (.long pb), .second, .val (.ref b21), .val (.ref b24), .unset] [(.int (lcmpW qa qb))])) t → Steps p.tables e below (s₁.setTop (entryFrame m #[(.int vs1), (.long vq1), (.long vp1), (.int vs2), (.long vq2), (.long vp2)] maxLocals)) t := by
            intro t kt
            refine pre54 t ?_
            show Steps p.tables e below (T36.setTop (mkF m 189 #[.val (.int vs1), .val (.long vq1), .second, .val (.long vp1), .second, .val (.int vs2), .val (.long vq2), .second, .val (.long vp2), .second, .val (.int sa), .val (.long qa), .second, .val (.long pa), .second, .val (.int sb), .val (.long qb), .second, .val (.long pb), .second, .val (.ref b21), .val (.ref b24), .unset] [(.int sb), (.int sa)])) _
            refine XS.icmpNo X36.here hx rfl (hb hby at_189) rfl (teq (hc56 : sa = sb)).2 ?_
            show Steps p.tables e below (T36.setTop (mkF m 192 #[.val (.int vs1), .val (.long vq1), .second, .val (.long vp1), .second, .val (.int vs2), .val (.long vq2), .second, .val (.long vp2), .second, .val (.int sa), .val (.long qa), .second, .val (.long pa), .second, .val (.int sb), .val (.long qb), .second, .val (.long pb), .second, .val (.ref b21), .val (.ref b24), .unset] [])) _
            refine XS.lload X36.here hx rfl (hb hby at_192) rfl ?_
            show Steps p.tables e below (T36.setTop (mkF m 194 #[.val (.int vs1), .val (.long vq1), .second, .val (.long vp1), .second, .val (.int vs2), .val (.long vq2), .second, .val (.long vp2), .second, .val (.int sa), .val (.long qa), .second, .val (.long pa), .second, .val (.int sb), .val (.long qb), .second, .val (.long pb), .second, .val (.ref b21), .val (.ref b24), .unset] [(.long qa)])) _
            refine XS.lload X36.here hx rfl (hb hby at_194) rfl ?_
            show Steps p.tables e below (T36.setTop (mkF m 196 #[.val (.int vs1), .val (.long vq1), .second, .val (.long vp1), .second, .val (.int vs2), .val (.long vq2), .second, .val (.long vp2), .second, .val (.int sa), .val (.long qa), .second, .val (.long pa), .second, .val (.int sb), .val (.long qb), .second, .val (.long pb), .second, .val (.ref b21), .val (.ref b24), .unset] [(.long qb), (.long qa)])) _
            refine XS.lcmp X36.here hx rfl (hb hby at_196) rfl ?_
            exact kt
          by_cases hc58 : qa = qb
          ·
            have pre59 : ∀ t, Steps p.tables e below (T36.setTop (mkF m 205 #[.val (.int vs1), .val (.long vq1), .second, .val (.long vp1), .second, .val (.int vs2), .val (.long vq2), .second, .val (.long vp2), .second, .val (.int sa), .val (.long qa), .second, .val (.long pa), .second, .val (.int sb), .val (.long qb), .second, .val (.long pb), .second, .val (.ref b21), .val (.ref b24), .unset] [(.int (lcmpW pa pb))])) t → Steps p.tables e below (s₁.setTop (entryFrame m #[(.int vs1), (.long vq1), (.long vp1), (.int vs2), (.long vq2), (.long vp2)] maxLocals)) t := by
              intro t kt
              refine pre57 t ?_
              show Steps p.tables e below (T36.setTop (mkF m 197 #[.val (.int vs1), .val (.long vq1), .second, .val (.long vp1), .second, .val (.int vs2), .val (.long vq2), .second, .val (.long vp2), .second, .val (.int sa), .val (.long qa), .second, .val (.long pa), .second, .val (.int sb), .val (.long qb), .second, .val (.long pb), .second, .val (.ref b21), .val (.ref b24), .unset] [(.int (lcmpW qa qb))])) _
              refine XS.ifNo X36.here hx rfl (hb hby at_197) rfl ((if0 _ _).trans (teq (((lw_eq _ _).mpr hc58) : (lcmpW qa qb) = (0 : Int32))).2) ?_
              show Steps p.tables e below (T36.setTop (mkF m 200 #[.val (.int vs1), .val (.long vq1), .second, .val (.long vp1), .second, .val (.int vs2), .val (.long vq2), .second, .val (.long vp2), .second, .val (.int sa), .val (.long qa), .second, .val (.long pa), .second, .val (.int sb), .val (.long qb), .second, .val (.long pb), .second, .val (.ref b21), .val (.ref b24), .unset] [])) _
              refine XS.lload X36.here hx rfl (hb hby at_200) rfl ?_
              show Steps p.tables e below (T36.setTop (mkF m 202 #[.val (.int vs1), .val (.long vq1), .second, .val (.long vp1), .second, .val (.int vs2), .val (.long vq2), .second, .val (.long vp2), .second, .val (.int sa), .val (.long qa), .second, .val (.long pa), .second, .val (.int sb), .val (.long qb), .second, .val (.long pb), .second, .val (.ref b21), .val (.ref b24), .unset] [(.long pa)])) _
              refine XS.lload X36.here hx rfl (hb hby at_202) rfl ?_
              show Steps p.tables e below (T36.setTop (mkF m 204 #[.val (.int vs1), .val (.long vq1), .second, .val (.long vp1), .second, .val (.int vs2), .val (.long vq2), .second, .val (.long vp2), .second, .val (.int sa), .val (.long qa), .second, .val (.long pa), .second, .val (.int sb), .val (.long qb), .second, .val (.long pb), .second, .val (.ref b21), .val (.ref b24), .unset] [(.long pb), (.long pa)])) _
              refine XS.lcmp X36.here hx rfl (hb hby at_204) rfl ?_
              exact kt
            by_cases hc60 : pa = pb
            ·
              have pre61 : ∀ t, Steps p.tables e below (T36.setTop (mkF m 213 #[.val (.int vs1), .val (.long vq1), .second, .val (.long vp1), .second, .val (.int vs2), .val (.long vq2), .second, .val (.long vp2), .second, .val (.int sa), .val (.long qa), .second, .val (.long pa), .second, .val (.int sb), .val (.long qb), .second, .val (.long pb), .second, .val (.ref b21), .val (.ref b24), .unset] [(.int (1 : Int32))])) t → Steps p.tables e below (s₁.setTop (entryFrame m #[(.int vs1), (.long vq1), (.long vp1), (.int vs2), (.long vq2), (.long vp2)] maxLocals)) t := by
                intro t kt
                refine pre59 t ?_
                show Steps p.tables e below (T36.setTop (mkF m 205 #[.val (.int vs1), .val (.long vq1), .second, .val (.long vp1), .second, .val (.int vs2), .val (.long vq2), .second, .val (.long vp2), .second, .val (.int sa), .val (.long qa), .second, .val (.long pa), .second, .val (.int sb), .val (.long qb), .second, .val (.long pb), .second, .val (.ref b21), .val (.ref b24), .unset] [(.int (lcmpW pa pb))])) _
                refine XS.ifNo X36.here hx rfl (hb hby at_205) rfl ((if0 _ _).trans (teq (((lw_eq _ _).mpr hc60) : (lcmpW pa pb) = (0 : Int32))).2) ?_
                show Steps p.tables e below (T36.setTop (mkF m 208 #[.val (.int vs1), .val (.long vq1), .second, .val (.long vp1), .second, .val (.int vs2), .val (.long vq2), .second, .val (.long vp2), .second, .val (.int sa), .val (.long qa), .second, .val (.long pa), .second, .val (.int sb), .val (.long qb), .second, .val (.long pb), .second, .val (.ref b21), .val (.ref b24), .unset] [])) _
                refine XS.iconst X36.here hx rfl (hb hby at_208) ?_
                show Steps p.tables e below (T36.setTop (mkF m 209 #[.val (.int vs1), .val (.long vq1), .second, .val (.long vp1), .second, .val (.int vs2), .val (.long vq2), .second, .val (.long vp2), .second, .val (.int sa), .val (.long qa), .second, .val (.long pa), .second, .val (.int sb), .val (.long qb), .second, .val (.long pb), .second, .val (.ref b21), .val (.ref b24), .unset] [(.int (1 : Int32))])) _
                refine XS.goto X36.here hx rfl (pc0 := 209) (pc' := 213) rfl (hb hby at_209) (by decide) (by decide) ?_
                exact kt
              exact ⟨T36, _, X36, e36q, N36, fun t kt => by
                simp only [if_pos hc56, if_pos hc58, if_pos hc60] at kt
                exact pre61 t kt⟩
            ·
              have pre62 : ∀ t, Steps p.tables e below (T36.setTop (mkF m 213 #[.val (.int vs1), .val (.long vq1), .second, .val (.long vp1), .second, .val (.int vs2), .val (.long vq2), .second, .val (.long vp2), .second, .val (.int sa), .val (.long qa), .second, .val (.long pa), .second, .val (.int sb), .val (.long qb), .second, .val (.long pb), .second, .val (.ref b21), .val (.ref b24), .unset] [(.int (0 : Int32))])) t → Steps p.tables e below (s₁.setTop (entryFrame m #[(.int vs1), (.long vq1), (.long vp1), (.int vs2), (.long vq2), (.long vp2)] maxLocals)) t := by
                intro t kt
                refine pre59 t ?_
                show Steps p.tables e below (T36.setTop (mkF m 205 #[.val (.int vs1), .val (.long vq1), .second, .val (.long vp1), .second, .val (.int vs2), .val (.long vq2), .second, .val (.long vp2), .second, .val (.int sa), .val (.long qa), .second, .val (.long pa), .second, .val (.int sb), .val (.long qb), .second, .val (.long pb), .second, .val (.ref b21), .val (.ref b24), .unset] [(.int (lcmpW pa pb))])) _
                refine XS.ifYes X36.here hx rfl (pc0 := 205) (pc' := 212) rfl (hb hby at_205) rfl ((if0 _ _).trans (feq ((fun q => hc60 ((lw_eq _ _).mp q)) : ¬ ((lcmpW pa pb) = (0 : Int32)))).2) (by decide) (by decide) ?_
                show Steps p.tables e below (T36.setTop (mkF m 212 #[.val (.int vs1), .val (.long vq1), .second, .val (.long vp1), .second, .val (.int vs2), .val (.long vq2), .second, .val (.long vp2), .second, .val (.int sa), .val (.long qa), .second, .val (.long pa), .second, .val (.int sb), .val (.long qb), .second, .val (.long pb), .second, .val (.ref b21), .val (.ref b24), .unset] [])) _
                refine XS.iconst X36.here hx rfl (hb hby at_212) ?_
                exact kt
              exact ⟨T36, _, X36, e36q, N36, fun t kt => by
                simp only [if_pos hc56, if_pos hc58, if_neg hc60] at kt
                exact pre62 t kt⟩
          ·
            have pre63 : ∀ t, Steps p.tables e below (T36.setTop (mkF m 213 #[.val (.int vs1), .val (.long vq1), .second, .val (.long vp1), .second, .val (.int vs2), .val (.long vq2), .second, .val (.long vp2), .second, .val (.int sa), .val (.long qa), .second, .val (.long pa), .second, .val (.int sb), .val (.long qb), .second, .val (.long pb), .second, .val (.ref b21), .val (.ref b24), .unset] [(.int (0 : Int32))])) t → Steps p.tables e below (s₁.setTop (entryFrame m #[(.int vs1), (.long vq1), (.long vp1), (.int vs2), (.long vq2), (.long vp2)] maxLocals)) t := by
              intro t kt
              refine pre57 t ?_
              show Steps p.tables e below (T36.setTop (mkF m 197 #[.val (.int vs1), .val (.long vq1), .second, .val (.long vp1), .second, .val (.int vs2), .val (.long vq2), .second, .val (.long vp2), .second, .val (.int sa), .val (.long qa), .second, .val (.long pa), .second, .val (.int sb), .val (.long qb), .second, .val (.long pb), .second, .val (.ref b21), .val (.ref b24), .unset] [(.int (lcmpW qa qb))])) _
              refine XS.ifYes X36.here hx rfl (pc0 := 197) (pc' := 212) rfl (hb hby at_197) rfl ((if0 _ _).trans (feq ((fun q => hc58 ((lw_eq _ _).mp q)) : ¬ ((lcmpW qa qb) = (0 : Int32)))).2) (by decide) (by decide) ?_
              show Steps p.tables e below (T36.setTop (mkF m 212 #[.val (.int vs1), .val (.long vq1), .second, .val (.long vp1), .second, .val (.int vs2), .val (.long vq2), .second, .val (.long vp2), .second, .val (.int sa), .val (.long qa), .second, .val (.long pa), .second, .val (.int sb), .val (.long qb), .second, .val (.long pb), .second, .val (.ref b21), .val (.ref b24), .unset] [])) _
              refine XS.iconst X36.here hx rfl (hb hby at_212) ?_
              exact kt
            exact ⟨T36, _, X36, e36q, N36, fun t kt => by
              simp only [if_pos hc56, if_neg hc58] at kt
              exact pre63 t kt⟩
        ·
          have pre64 : ∀ t, Steps p.tables e below (T36.setTop (mkF m 213 #[.val (.int vs1), .val (.long vq1), .second, .val (.long vp1), .second, .val (.int vs2), .val (.long vq2), .second, .val (.long vp2), .second, .val (.int sa), .val (.long qa), .second, .val (.long pa), .second, .val (.int sb), .val (.long qb), .second, .val (.long pb), .second, .val (.ref b21), .val (.ref b24), .unset] [(.int (0 : Int32))])) t → Steps p.tables e below (s₁.setTop (entryFrame m #[(.int vs1), (.long vq1), (.long vp1), (.int vs2), (.long vq2), (.long vp2)] maxLocals)) t := by
            intro t kt
            refine pre54 t ?_
            show Steps p.tables e below (T36.setTop (mkF m 189 #[.val (.int vs1), .val (.long vq1), .second, .val (.long vp1), .second, .val (.int vs2), .val (.long vq2), .second, .val (.long vp2), .second, .val (.int sa), .val (.long qa), .second, .val (.long pa), .second, .val (.int sb), .val (.long qb), .second, .val (.long pb), .second, .val (.ref b21), .val (.ref b24), .unset] [(.int sb), (.int sa)])) _
            refine XS.icmpYes X36.here hx rfl (pc0 := 189) (pc' := 212) rfl (hb hby at_189) rfl (feq (hc56 : ¬ (sa = sb))).2 (by decide) (by decide) ?_
            show Steps p.tables e below (T36.setTop (mkF m 212 #[.val (.int vs1), .val (.long vq1), .second, .val (.long vp1), .second, .val (.int vs2), .val (.long vq2), .second, .val (.long vp2), .second, .val (.int sa), .val (.long qa), .second, .val (.long pa), .second, .val (.int sb), .val (.long qb), .second, .val (.long pb), .second, .val (.ref b21), .val (.ref b24), .unset] [])) _
            refine XS.iconst X36.here hx rfl (hb hby at_212) ?_
            exact kt
          exact ⟨T36, _, X36, e36q, N36, fun t kt => by
            simp only [if_neg hc56] at kt
            exact pre64 t kt⟩
      obtain ⟨cq65, kq65, q65a, q65b, q65c⟩ := isOf hZ e55 c31
      obtain ⟨_, _, ⟨T65, L65, k65, n65⟩, -, X65, ⟨Lc65, hQ65, l65, y65, z65⟩, st65⟩ := X55.virtualBack hx (y := (⟨"com/example/causeline/causeline/core/MessageId", "equals", "(Ljava/lang/Object;)Z"⟩ : MethodName)) (z := (⟨"com/example/causeline/causeline/core/MessageId", "equals", "(Ljava/lang/Object;)Z"⟩ : MethodName)) hown (mvT hZ (hw _ (List.mem_of_getElem? (i := 29) rfl))) (mvT hZ (hw _ (List.mem_of_getElem? (i := 30) rfl))) (notFace_of_selects (args := #[]) (mvT hZ (hw _ (List.mem_of_getElem? (i := 32) rfl)))) (mvT hZ (hw _ (List.mem_of_getElem? (i := 32) rfl))) (mvT hZ (hw _ (List.mem_of_getElem? (i := 31) rfl))) (by decide) (backOf (W := 0) (rm6 l Z a0 hw [] b21 b24 sa qa pa sb qb pb T30.heap n0 Z30 c31 c32 c33 c34 f30_0 f30_1 f30_2 f30_3) hZ (hw _ (List.mem_of_getElem? (i := 33) rfl)) (hw _ (List.mem_of_getElem? (i := 11) rfl)) (by decide) (by decide)) q65a q65c (g := (mkF m 219 #[.val (.int vs1), .val (.long vq1), .second, .val (.long vp1), .second, .val (.int vs2), .val (.long vq2), .second, .val (.long vp2), .second, .val (.int sa), .val (.long qa), .second, .val (.long pa), .second, .val (.int sb), .val (.long qb), .second, .val (.long pb), .second, .val (.ref b21), .val (.ref b24), .val (.int (if sa = sb then (if qa = qb then (if pa = pb then (1 : Int32) else (0 : Int32)) else (0 : Int32)) else (0 : Int32)))] [(.ref b24), (.ref b21)])) rfl (by rw [hml]; rfl) (Steps.refl _) (argsL := [(.ref b24)]) (rest := []) (lenOf pd_5 rfl) rfl (by show 2 * 0 + _ ≤ _; exact Nat.le_of_eq rfl) (hb hby at_219) (fun _ _ => ⟨rfl, e55, (by decide : 2 + 0 ≤ _), (by decide : 6 + 0 ≤ _)⟩)
      dsimp only [Pt.U, Pt.locs, Pt.cells, Pt.slots] at X65 l65 y65 z65 st65 hQ65
      subst l65 y65 z65
      obtain ⟨rfl, N65q, e65q⟩ := hQ65
      have N65 := Fr.app N55 N65q
      obtain ⟨cq66, kq66, q66a, q66b, q66c⟩ := isOf hZ e65q f30_0
      obtain ⟨_, _, ⟨T66, L66, k66, n66⟩, -, X66, ⟨Lc66, hQ66, l66, y66, z66⟩, st66⟩ := X65.virtualBack hx (y := (⟨"com/example/causeline/causeline/core/MessageId", "equals", "(Ljava/lang/Object;)Z"⟩ : MethodName)) (z := (⟨"com/example/causeline/causeline/core/MessageId", "equals", "(Ljava/lang/Object;)Z"⟩ : MethodName)) hown (mvT hZ (hw _ (List.mem_of_getElem? (i := 29) rfl))) (mvT hZ (hw _ (List.mem_of_getElem? (i := 30) rfl))) (notFace_of_selects (args := #[]) (mvT hZ (hw _ (List.mem_of_getElem? (i := 32) rfl)))) (mvT hZ (hw _ (List.mem_of_getElem? (i := 32) rfl))) (mvT hZ (hw _ (List.mem_of_getElem? (i := 31) rfl))) (by decide) (backOf (W := 0) (rm6 l Z a0 hw [] b24 b21 sb qb pb sa qa pa T30.heap n0 Z30 f30_0 f30_1 f30_2 f30_3 c31 c32 c33 c34) hZ (hw _ (List.mem_of_getElem? (i := 33) rfl)) (hw _ (List.mem_of_getElem? (i := 11) rfl)) (by decide) (by decide)) q66a q66c (g := (mkF m 231 #[.val (.int vs1), .val (.long vq1), .second, .val (.long vp1), .second, .val (.int vs2), .val (.long vq2), .second, .val (.long vp2), .second, .val (.int sa), .val (.long qa), .second, .val (.long pa), .second, .val (.int sb), .val (.long qb), .second, .val (.long pb), .second, .val (.ref b21), .val (.ref b24), .val (.int (if sa = sb then (if qa = qb then (if pa = pb then (1 : Int32) else (0 : Int32)) else (0 : Int32)) else (0 : Int32)))] [(.ref b21), (.ref b24)])) rfl (by rw [hml]; rfl) (Steps.refl _) (argsL := [(.ref b21)]) (rest := []) (lenOf pd_5 rfl) rfl (by show 2 * 0 + _ ≤ _; exact Nat.le_of_eq rfl) (hb hby at_231) (fun _ _ => ⟨rfl, e65q, (by decide : 2 + 0 ≤ _), (by decide : 6 + 0 ≤ _)⟩)
      dsimp only [Pt.U, Pt.locs, Pt.cells, Pt.slots] at X66 l66 y66 z66 st66 hQ66
      subst l66 y66 z66
      obtain ⟨rfl, N66q, e66q⟩ := hQ66
      have N66 := Fr.app N65 N66q
      obtain ⟨fs, hr, hrun, hended, hW, hsame⟩ := X66.leave (v := some (.int (1 : Int32))) (fun h => by rw [Bd.returns] at h; cases h)
      refine ⟨_, _, pre55 _ ?_, hrun, hended, _, _, rfl, ?_, ⟨_, rfl⟩, hW, hsame.mono (by decide) (by decide)⟩
      ·
        show Steps p.tables e below (T55.setTop (mkF m 213 #[.val (.int vs1), .val (.long vq1), .second, .val (.long vp1), .second, .val (.int vs2), .val (.long vq2), .second, .val (.long vp2), .second, .val (.int sa), .val (.long qa), .second, .val (.long pa), .second, .val (.int sb), .val (.long qb), .second, .val (.long pb), .second, .val (.ref b21), .val (.ref b24), .unset] [(.int (if sa = sb then (if qa = qb then (if pa = pb then (1 : Int32) else (0 : Int32)) else (0 : Int32)) else (0 : Int32)))])) _
        refine XS.istore X55.here hx rfl (hb hby at_213) rfl (l' := #[.val (.int vs1), .val (.long vq1), .second, .val (.long vp1), .second, .val (.int vs2), .val (.long vq2), .second, .val (.long vp2), .second, .val (.int sa), .val (.long qa), .second, .val (.long pa), .second, .val (.int sb), .val (.long qb), .second, .val (.long pb), .second, .val (.ref b21), .val (.ref b24), .val (.int (if sa = sb then (if qa = qb then (if pa = pb then (1 : Int32) else (0 : Int32)) else (0 : Int32)) else (0 : Int32)))]) rfl ?_
        show Steps p.tables e below (T55.setTop (mkF m 215 #[.val (.int vs1), .val (.long vq1), .second, .val (.long vp1), .second, .val (.int vs2), .val (.long vq2), .second, .val (.long vp2), .second, .val (.int sa), .val (.long qa), .second, .val (.long pa), .second, .val (.int sb), .val (.long qb), .second, .val (.long pb), .second, .val (.ref b21), .val (.ref b24), .val (.int (if sa = sb then (if qa = qb then (if pa = pb then (1 : Int32) else (0 : Int32)) else (0 : Int32)) else (0 : Int32)))] [])) _
        refine XS.aload X55.here hx rfl (hb hby at_215) rfl rfl ?_
        show Steps p.tables e below (T55.setTop (mkF m 217 #[.val (.int vs1), .val (.long vq1), .second, .val (.long vp1), .second, .val (.int vs2), .val (.long vq2), .second, .val (.long vp2), .second, .val (.int sa), .val (.long qa), .second, .val (.long pa), .second, .val (.int sb), .val (.long qb), .second, .val (.long pb), .second, .val (.ref b21), .val (.ref b24), .val (.int (if sa = sb then (if qa = qb then (if pa = pb then (1 : Int32) else (0 : Int32)) else (0 : Int32)) else (0 : Int32)))] [(.ref b21)])) _
        refine XS.aload X55.here hx rfl (hb hby at_217) rfl rfl ?_
        show Steps p.tables e below (T55.setTop (mkF m 219 #[.val (.int vs1), .val (.long vq1), .second, .val (.long vp1), .second, .val (.int vs2), .val (.long vq2), .second, .val (.long vp2), .second, .val (.int sa), .val (.long qa), .second, .val (.long pa), .second, .val (.int sb), .val (.long qb), .second, .val (.long pb), .second, .val (.ref b21), .val (.ref b24), .val (.int (if sa = sb then (if qa = qb then (if pa = pb then (1 : Int32) else (0 : Int32)) else (0 : Int32)) else (0 : Int32)))] [(.ref b24), (.ref b21)])) _
        refine st65.trans ?_
        show Steps p.tables e below (T65.setTop (mkF m 222 #[.val (.int vs1), .val (.long vq1), .second, .val (.long vp1), .second, .val (.int vs2), .val (.long vq2), .second, .val (.long vp2), .second, .val (.int sa), .val (.long qa), .second, .val (.long pa), .second, .val (.int sb), .val (.long qb), .second, .val (.long pb), .second, .val (.ref b21), .val (.ref b24), .val (.int (if sa = sb then (if qa = qb then (if pa = pb then (1 : Int32) else (0 : Int32)) else (0 : Int32)) else (0 : Int32)))] [(.int (own_eq b21 b24 sa qa pa sb qb pb))])) _
        refine XS.iload X65.here hx rfl (hb hby at_222) rfl ?_
        show Steps p.tables e below (T65.setTop (mkF m 224 #[.val (.int vs1), .val (.long vq1), .second, .val (.long vp1), .second, .val (.int vs2), .val (.long vq2), .second, .val (.long vp2), .second, .val (.int sa), .val (.long qa), .second, .val (.long pa), .second, .val (.int sb), .val (.long qb), .second, .val (.long pb), .second, .val (.ref b21), .val (.ref b24), .val (.int (if sa = sb then (if qa = qb then (if pa = pb then (1 : Int32) else (0 : Int32)) else (0 : Int32)) else (0 : Int32)))] [(.int (if sa = sb then (if qa = qb then (if pa = pb then (1 : Int32) else (0 : Int32)) else (0 : Int32)) else (0 : Int32))), (.int (own_eq b21 b24 sa qa pa sb qb pb))])) _
        refine XS.icmpNo X65.here hx rfl (hb hby at_224) rfl (teq ((own_eq_1 _ _ _ _ _ _ _ _) : (own_eq b21 b24 sa qa pa sb qb pb) = (if sa = sb then (if qa = qb then (if pa = pb then (1 : Int32) else (0 : Int32)) else (0 : Int32)) else (0 : Int32)))).2 ?_
        show Steps p.tables e below (T65.setTop (mkF m 227 #[.val (.int vs1), .val (.long vq1), .second, .val (.long vp1), .second, .val (.int vs2), .val (.long vq2), .second, .val (.long vp2), .second, .val (.int sa), .val (.long qa), .second, .val (.long pa), .second, .val (.int sb), .val (.long qb), .second, .val (.long pb), .second, .val (.ref b21), .val (.ref b24), .val (.int (if sa = sb then (if qa = qb then (if pa = pb then (1 : Int32) else (0 : Int32)) else (0 : Int32)) else (0 : Int32)))] [])) _
        refine XS.aload X65.here hx rfl (hb hby at_227) rfl rfl ?_
        show Steps p.tables e below (T65.setTop (mkF m 229 #[.val (.int vs1), .val (.long vq1), .second, .val (.long vp1), .second, .val (.int vs2), .val (.long vq2), .second, .val (.long vp2), .second, .val (.int sa), .val (.long qa), .second, .val (.long pa), .second, .val (.int sb), .val (.long qb), .second, .val (.long pb), .second, .val (.ref b21), .val (.ref b24), .val (.int (if sa = sb then (if qa = qb then (if pa = pb then (1 : Int32) else (0 : Int32)) else (0 : Int32)) else (0 : Int32)))] [(.ref b24)])) _
        refine XS.aload X65.here hx rfl (hb hby at_229) rfl rfl ?_
        show Steps p.tables e below (T65.setTop (mkF m 231 #[.val (.int vs1), .val (.long vq1), .second, .val (.long vp1), .second, .val (.int vs2), .val (.long vq2), .second, .val (.long vp2), .second, .val (.int sa), .val (.long qa), .second, .val (.long pa), .second, .val (.int sb), .val (.long qb), .second, .val (.long pb), .second, .val (.ref b21), .val (.ref b24), .val (.int (if sa = sb then (if qa = qb then (if pa = pb then (1 : Int32) else (0 : Int32)) else (0 : Int32)) else (0 : Int32)))] [(.ref b21), (.ref b24)])) _
        refine st66.trans ?_
        show Steps p.tables e below (T66.setTop (mkF m 234 #[.val (.int vs1), .val (.long vq1), .second, .val (.long vp1), .second, .val (.int vs2), .val (.long vq2), .second, .val (.long vp2), .second, .val (.int sa), .val (.long qa), .second, .val (.long pa), .second, .val (.int sb), .val (.long qb), .second, .val (.long pb), .second, .val (.ref b21), .val (.ref b24), .val (.int (if sa = sb then (if qa = qb then (if pa = pb then (1 : Int32) else (0 : Int32)) else (0 : Int32)) else (0 : Int32)))] [(.int (own_eq b24 b21 sb qb pb sa qa pa))])) _
        refine XS.iload X66.here hx rfl (hb hby at_234) rfl ?_
        show Steps p.tables e below (T66.setTop (mkF m 236 #[.val (.int vs1), .val (.long vq1), .second, .val (.long vp1), .second, .val (.int vs2), .val (.long vq2), .second, .val (.long vp2), .second, .val (.int sa), .val (.long qa), .second, .val (.long pa), .second, .val (.int sb), .val (.long qb), .second, .val (.long pb), .second, .val (.ref b21), .val (.ref b24), .val (.int (if sa = sb then (if qa = qb then (if pa = pb then (1 : Int32) else (0 : Int32)) else (0 : Int32)) else (0 : Int32)))] [(.int (if sa = sb then (if qa = qb then (if pa = pb then (1 : Int32) else (0 : Int32)) else (0 : Int32)) else (0 : Int32))), (.int (own_eq b24 b21 sb qb pb sa qa pa))])) _
        refine XS.icmpNo X66.here hx rfl (hb hby at_236) rfl (teq ((own_eq_2 _ _ _ _ _ _ _ _) : (own_eq b24 b21 sb qb pb sa qa pa) = (if sa = sb then (if qa = qb then (if pa = pb then (1 : Int32) else (0 : Int32)) else (0 : Int32)) else (0 : Int32)))).2 ?_
        show Steps p.tables e below (T66.setTop (mkF m 239 #[.val (.int vs1), .val (.long vq1), .second, .val (.long vp1), .second, .val (.int vs2), .val (.long vq2), .second, .val (.long vp2), .second, .val (.int sa), .val (.long qa), .second, .val (.long pa), .second, .val (.int sb), .val (.long qb), .second, .val (.long pb), .second, .val (.ref b21), .val (.ref b24), .val (.int (if sa = sb then (if qa = qb then (if pa = pb then (1 : Int32) else (0 : Int32)) else (0 : Int32)) else (0 : Int32)))] [])) _
        refine XS.iconst X66.here hx rfl (hb hby at_239) ?_
        show Steps p.tables e below (T66.setTop (mkF m 240 #[.val (.int vs1), .val (.long vq1), .second, .val (.long vp1), .second, .val (.int vs2), .val (.long vq2), .second, .val (.long vp2), .second, .val (.int sa), .val (.long qa), .second, .val (.long pa), .second, .val (.int sb), .val (.long qb), .second, .val (.long pb), .second, .val (.ref b21), .val (.ref b24), .val (.int (if sa = sb then (if qa = qb then (if pa = pb then (1 : Int32) else (0 : Int32)) else (0 : Int32)) else (0 : Int32)))] [(.int (1 : Int32))])) _
        refine XS.goto X66.here hx rfl (pc0 := 240) (pc' := 244) rfl (hb hby at_240) (by decide) (by decide) ?_
        show Steps p.tables e below (T66.setTop (mkF m 244 #[.val (.int vs1), .val (.long vq1), .second, .val (.long vp1), .second, .val (.int vs2), .val (.long vq2), .second, .val (.long vp2), .second, .val (.int sa), .val (.long qa), .second, .val (.long pa), .second, .val (.int sb), .val (.long qb), .second, .val (.long pb), .second, .val (.ref b21), .val (.ref b24), .val (.int (if sa = sb then (if qa = qb then (if pa = pb then (1 : Int32) else (0 : Int32)) else (0 : Int32)) else (0 : Int32)))] [(.int (1 : Int32))])) _
        exact retN X66 hx (t := .boolean) Bd.returns (by simp) (hb hby at_244) hr
      ·
        show Q0 Z vs1 vq1 vp1 vs2 vq2 vp2 vc cl h0 n0 _ T66.heap _
        rw [e66q]
        exact ⟨rfl, N66⟩
  ·
    have pre67 : ∀ t, Steps p.tables e below (T36.setTop (mkF m 189 #[.val (.int vs1), .val (.long vq1), .second, .val (.long vp1), .second, .val (.int vs2), .val (.long vq2), .second, .val (.long vp2), .second, .val (.int sa), .val (.long qa), .second, .val (.long pa), .second, .val (.int sb), .val (.long qb), .second, .val (.long pb), .second, .val (.ref b21), .val (.ref b24), .unset] [(.int sb), (.int sa)])) t → Steps p.tables e below (s₁.setTop (entryFrame m #[(.int vs1), (.long vq1), (.long vp1), (.int vs2), (.long vq2), (.long vp2)] maxLocals)) t := by
      intro t kt
      refine pre37 t ?_
      show Steps p.tables e below (T36.setTop (mkF m 136 #[.val (.int vs1), .val (.long vq1), .second, .val (.long vp1), .second, .val (.int vs2), .val (.long vq2), .second, .val (.long vp2), .second, .val (.int sa), .val (.long qa), .second, .val (.long pa), .second, .val (.int sb), .val (.long qb), .second, .val (.long pb), .second, .val (.ref b21), .val (.ref b24), .unset] [(.int vs1)])) _
      refine XS.ifYes X36.here hx rfl (pc0 := 136) (pc' := 185) rfl (hb hby at_136) rfl ((if0 _ _).trans (flt (hc38 : ¬ (vs1 < (0 : Int32)))).2.1) (by decide) (by decide) ?_
      show Steps p.tables e below (T36.setTop (mkF m 185 #[.val (.int vs1), .val (.long vq1), .second, .val (.long vp1), .second, .val (.int vs2), .val (.long vq2), .second, .val (.long vp2), .second, .val (.int sa), .val (.long qa), .second, .val (.long pa), .second, .val (.int sb), .val (.long qb), .second, .val (.long pb), .second, .val (.ref b21), .val (.ref b24), .unset] [])) _
      refine XS.iload X36.here hx rfl (hb hby at_185) rfl ?_
      show Steps p.tables e below (T36.setTop (mkF m 187 #[.val (.int vs1), .val (.long vq1), .second, .val (.long vp1), .second, .val (.int vs2), .val (.long vq2), .second, .val (.long vp2), .second, .val (.int sa), .val (.long qa), .second, .val (.long pa), .second, .val (.int sb), .val (.long qb), .second, .val (.long pb), .second, .val (.ref b21), .val (.ref b24), .unset] [(.int sa)])) _
      refine XS.iload X36.here hx rfl (hb hby at_187) rfl ?_
      exact kt
    obtain ⟨T68, L68, X68, e68, N68, pre68⟩ : ∃ (Tm : State) (Lm : List Loc), Stand p l e room_1 s m #[(.int vs1), (.long vq1), (.long vp1), (.int vs2), (.long vq2), (.long vp2)] below meth c Tm Lm 2 6 ∧ Tm.heap = T30.heap ∧ Fr n0 Lm ∧ ∀ t, Steps p.tables e below (Tm.setTop (mkF m 213 #[.val (.int vs1), .val (.long vq1), .second, .val (.long vp1), .second, .val (.int vs2), .val (.long vq2), .second, .val (.long vp2), .second, .val (.int sa), .val (.long qa), .second, .val (.long pa), .second, .val (.int sb), .val (.long qb), .second, .val (.long pb), .second, .val (.ref b21), .val (.ref b24), .unset] [(.int (if sa = sb then (if qa = qb then (if pa = pb then (1 : Int32) else (0 : Int32)) else (0 : Int32)) else (0 : Int32)))])) t → Steps p.tables e below (s₁.setTop (entryFrame m #[(.int vs1), (.long vq1), (.long vp1), (.int vs2), (.long vq2), (.long vp2)] maxLocals)) t := by
      by_cases hc69 : sa = sb
      ·
        have pre70 : ∀ t, Steps p.tables e below (T36.setTop (mkF m 197 #[.val (.int vs1), .val (.long vq1), .second, .val (.long vp1), .second, .val (.int vs2), .val (.long vq2), .second, .val (.long vp2), .second, .val (.int sa), .val (.long qa), .second, .val (.long pa), .second, .val (.int sb), .val (.long qb), .second, .val (.long pb), .second, .val (.ref b21), .val (.ref b24), .unset] [(.int (lcmpW qa qb))])) t → Steps p.tables e below (s₁.setTop (entryFrame m #[(.int vs1), (.long vq1), (.long vp1), (.int vs2), (.long vq2), (.long vp2)] maxLocals)) t := by
          intro t kt
          refine pre67 t ?_
          show Steps p.tables e below (T36.setTop (mkF m 189 #[.val (.int vs1), .val (.long vq1), .second, .val (.long vp1), .second, .val (.int vs2), .val (.long vq2), .second, .val (.long vp2), .second, .val (.int sa), .val (.long qa), .second, .val (.long pa), .second, .val (.int sb), .val (.long qb), .second, .val (.long pb), .second, .val (.ref b21), .val (.ref b24), .unset] [(.int sb), (.int sa)])) _
          refine XS.icmpNo X36.here hx rfl (hb hby at_189) rfl (teq (hc69 : sa = sb)).2 ?_
          show Steps p.tables e below (T36.setTop (mkF m 192 #[.val (.int vs1), .val (.long vq1), .second, .val (.long vp1), .second, .val (.int vs2), .val (.long vq2), .second, .val (.long vp2), .second, .val (.int sa), .val (.long qa), .second, .val (.long pa), .second, .val (.int sb), .val (.long qb), .second, .val (.long pb), .second, .val (.ref b21), .val (.ref b24), .unset] [])) _
          refine XS.lload X36.here hx rfl (hb hby at_192) rfl ?_
          show Steps p.tables e below (T36.setTop (mkF m 194 #[.val (.int vs1), .val (.long vq1), .second, .val (.long vp1), .second, .val (.int vs2), .val (.long vq2), .second, .val (.long vp2), .second, .val (.int sa), .val (.long qa), .second, .val (.long pa), .second, .val (.int sb), .val (.long qb), .second, .val (.long pb), .second, .val (.ref b21), .val (.ref b24), .unset] [(.long qa)])) _
          refine XS.lload X36.here hx rfl (hb hby at_194) rfl ?_
          show Steps p.tables e below (T36.setTop (mkF m 196 #[.val (.int vs1), .val (.long vq1), .second, .val (.long vp1), .second, .val (.int vs2), .val (.long vq2), .second, .val (.long vp2), .second, .val (.int sa), .val (.long qa), .second, .val (.long pa), .second, .val (.int sb), .val (.long qb), .second, .val (.long pb), .second, .val (.ref b21), .val (.ref b24), .unset] [(.long qb), (.long qa)])) _
          refine XS.lcmp X36.here hx rfl (hb hby at_196) rfl ?_
          exact kt
        by_cases hc71 : qa = qb
        ·
          have pre72 : ∀ t, Steps p.tables e below (T36.setTop (mkF m 205 #[.val (.int vs1), .val (.long vq1), .second, .val (.long vp1), .second, .val (.int vs2), .val (.long vq2), .second, .val (.long vp2), .second, .val (.int sa), .val (.long qa), .second, .val (.long pa), .second, .val (.int sb), .val (.long qb), .second, .val (.long pb), .second, .val (.ref b21), .val (.ref b24), .unset] [(.int (lcmpW pa pb))])) t → Steps p.tables e below (s₁.setTop (entryFrame m #[(.int vs1), (.long vq1), (.long vp1), (.int vs2), (.long vq2), (.long vp2)] maxLocals)) t := by
            intro t kt
            refine pre70 t ?_
            show Steps p.tables e below (T36.setTop (mkF m 197 #[.val (.int vs1), .val (.long vq1), .second, .val (.long vp1), .second, .val (.int vs2), .val (.long vq2), .second, .val (.long vp2), .second, .val (.int sa), .val (.long qa), .second, .val (.long pa), .second, .val (.int sb), .val (.long qb), .second, .val (.long pb), .second, .val (.ref b21), .val (.ref b24), .unset] [(.int (lcmpW qa qb))])) _
            refine XS.ifNo X36.here hx rfl (hb hby at_197) rfl ((if0 _ _).trans (teq (((lw_eq _ _).mpr hc71) : (lcmpW qa qb) = (0 : Int32))).2) ?_
            show Steps p.tables e below (T36.setTop (mkF m 200 #[.val (.int vs1), .val (.long vq1), .second, .val (.long vp1), .second, .val (.int vs2), .val (.long vq2), .second, .val (.long vp2), .second, .val (.int sa), .val (.long qa), .second, .val (.long pa), .second, .val (.int sb), .val (.long qb), .second, .val (.long pb), .second, .val (.ref b21), .val (.ref b24), .unset] [])) _
            refine XS.lload X36.here hx rfl (hb hby at_200) rfl ?_
            show Steps p.tables e below (T36.setTop (mkF m 202 #[.val (.int vs1), .val (.long vq1), .second, .val (.long vp1), .second, .val (.int vs2), .val (.long vq2), .second, .val (.long vp2), .second, .val (.int sa), .val (.long qa), .second, .val (.long pa), .second, .val (.int sb), .val (.long qb), .second, .val (.long pb), .second, .val (.ref b21), .val (.ref b24), .unset] [(.long pa)])) _
            refine XS.lload X36.here hx rfl (hb hby at_202) rfl ?_
            show Steps p.tables e below (T36.setTop (mkF m 204 #[.val (.int vs1), .val (.long vq1), .second, .val (.long vp1), .second, .val (.int vs2), .val (.long vq2), .second, .val (.long vp2), .second, .val (.int sa), .val (.long qa), .second, .val (.long pa), .second, .val (.int sb), .val (.long qb), .second, .val (.long pb), .second, .val (.ref b21), .val (.ref b24), .unset] [(.long pb), (.long pa)])) _
            refine XS.lcmp X36.here hx rfl (hb hby at_204) rfl ?_
            exact kt
          by_cases hc73 : pa = pb
          ·
            have pre74 : ∀ t, Steps p.tables e below (T36.setTop (mkF m 213 #[.val (.int vs1), .val (.long vq1), .second, .val (.long vp1), .second, .val (.int vs2), .val (.long vq2), .second, .val (.long vp2), .second, .val (.int sa), .val (.long qa), .second, .val (.long pa), .second, .val (.int sb), .val (.long qb), .second, .val (.long pb), .second, .val (.ref b21), .val (.ref b24), .unset] [(.int (1 : Int32))])) t → Steps p.tables e below (s₁.setTop (entryFrame m #[(.int vs1), (.long vq1), (.long vp1), (.int vs2), (.long vq2), (.long vp2)] maxLocals)) t := by
              intro t kt
              refine pre72 t ?_
              show Steps p.tables e below (T36.setTop (mkF m 205 #[.val (.int vs1), .val (.long vq1), .second, .val (.long vp1), .second, .val (.int vs2), .val (.long vq2), .second, .val (.long vp2), .second, .val (.int sa), .val (.long qa), .second, .val (.long pa), .second, .val (.int sb), .val (.long qb), .second, .val (.long pb), .second, .val (.ref b21), .val (.ref b24), .unset] [(.int (lcmpW pa pb))])) _
              refine XS.ifNo X36.here hx rfl (hb hby at_205) rfl ((if0 _ _).trans (teq (((lw_eq _ _).mpr hc73) : (lcmpW pa pb) = (0 : Int32))).2) ?_
              show Steps p.tables e below (T36.setTop (mkF m 208 #[.val (.int vs1), .val (.long vq1), .second, .val (.long vp1), .second, .val (.int vs2), .val (.long vq2), .second, .val (.long vp2), .second, .val (.int sa), .val (.long qa), .second, .val (.long pa), .second, .val (.int sb), .val (.long qb), .second, .val (.long pb), .second, .val (.ref b21), .val (.ref b24), .unset] [])) _
              refine XS.iconst X36.here hx rfl (hb hby at_208) ?_
              show Steps p.tables e below (T36.setTop (mkF m 209 #[.val (.int vs1), .val (.long vq1), .second, .val (.long vp1), .second, .val (.int vs2), .val (.long vq2), .second, .val (.long vp2), .second, .val (.int sa), .val (.long qa), .second, .val (.long pa), .second, .val (.int sb), .val (.long qb), .second, .val (.long pb), .second, .val (.ref b21), .val (.ref b24), .unset] [(.int (1 : Int32))])) _
              refine XS.goto X36.here hx rfl (pc0 := 209) (pc' := 213) rfl (hb hby at_209) (by decide) (by decide) ?_
              exact kt
            exact ⟨T36, _, X36, e36q, N36, fun t kt => by
              simp only [if_pos hc69, if_pos hc71, if_pos hc73] at kt
              exact pre74 t kt⟩
          ·
            have pre75 : ∀ t, Steps p.tables e below (T36.setTop (mkF m 213 #[.val (.int vs1), .val (.long vq1), .second, .val (.long vp1), .second, .val (.int vs2), .val (.long vq2), .second, .val (.long vp2), .second, .val (.int sa), .val (.long qa), .second, .val (.long pa), .second, .val (.int sb), .val (.long qb), .second, .val (.long pb), .second, .val (.ref b21), .val (.ref b24), .unset] [(.int (0 : Int32))])) t → Steps p.tables e below (s₁.setTop (entryFrame m #[(.int vs1), (.long vq1), (.long vp1), (.int vs2), (.long vq2), (.long vp2)] maxLocals)) t := by
              intro t kt
              refine pre72 t ?_
              show Steps p.tables e below (T36.setTop (mkF m 205 #[.val (.int vs1), .val (.long vq1), .second, .val (.long vp1), .second, .val (.int vs2), .val (.long vq2), .second, .val (.long vp2), .second, .val (.int sa), .val (.long qa), .second, .val (.long pa), .second, .val (.int sb), .val (.long qb), .second, .val (.long pb), .second, .val (.ref b21), .val (.ref b24), .unset] [(.int (lcmpW pa pb))])) _
              refine XS.ifYes X36.here hx rfl (pc0 := 205) (pc' := 212) rfl (hb hby at_205) rfl ((if0 _ _).trans (feq ((fun q => hc73 ((lw_eq _ _).mp q)) : ¬ ((lcmpW pa pb) = (0 : Int32)))).2) (by decide) (by decide) ?_
              show Steps p.tables e below (T36.setTop (mkF m 212 #[.val (.int vs1), .val (.long vq1), .second, .val (.long vp1), .second, .val (.int vs2), .val (.long vq2), .second, .val (.long vp2), .second, .val (.int sa), .val (.long qa), .second, .val (.long pa), .second, .val (.int sb), .val (.long qb), .second, .val (.long pb), .second, .val (.ref b21), .val (.ref b24), .unset] [])) _
              refine XS.iconst X36.here hx rfl (hb hby at_212) ?_
              exact kt
            exact ⟨T36, _, X36, e36q, N36, fun t kt => by
              simp only [if_pos hc69, if_pos hc71, if_neg hc73] at kt
              exact pre75 t kt⟩
        ·
          have pre76 : ∀ t, Steps p.tables e below (T36.setTop (mkF m 213 #[.val (.int vs1), .val (.long vq1), .second, .val (.long vp1), .second, .val (.int vs2), .val (.long vq2), .second, .val (.long vp2), .second, .val (.int sa), .val (.long qa), .second, .val (.long pa), .second, .val (.int sb), .val (.long qb), .second, .val (.long pb), .second, .val (.ref b21), .val (.ref b24), .unset] [(.int (0 : Int32))])) t → Steps p.tables e below (s₁.setTop (entryFrame m #[(.int vs1), (.long vq1), (.long vp1), (.int vs2), (.long vq2), (.long vp2)] maxLocals)) t := by
            intro t kt
            refine pre70 t ?_
            show Steps p.tables e below (T36.setTop (mkF m 197 #[.val (.int vs1), .val (.long vq1), .second, .val (.long vp1), .second, .val (.int vs2), .val (.long vq2), .second, .val (.long vp2), .second, .val (.int sa), .val (.long qa), .second, .val (.long pa), .second, .val (.int sb), .val (.long qb), .second, .val (.long pb), .second, .val (.ref b21), .val (.ref b24), .unset] [(.int (lcmpW qa qb))])) _
            refine XS.ifYes X36.here hx rfl (pc0 := 197) (pc' := 212) rfl (hb hby at_197) rfl ((if0 _ _).trans (feq ((fun q => hc71 ((lw_eq _ _).mp q)) : ¬ ((lcmpW qa qb) = (0 : Int32)))).2) (by decide) (by decide) ?_
            show Steps p.tables e below (T36.setTop (mkF m 212 #[.val (.int vs1), .val (.long vq1), .second, .val (.long vp1), .second, .val (.int vs2), .val (.long vq2), .second, .val (.long vp2), .second, .val (.int sa), .val (.long qa), .second, .val (.long pa), .second, .val (.int sb), .val (.long qb), .second, .val (.long pb), .second, .val (.ref b21), .val (.ref b24), .unset] [])) _
            refine XS.iconst X36.here hx rfl (hb hby at_212) ?_
            exact kt
          exact ⟨T36, _, X36, e36q, N36, fun t kt => by
            simp only [if_pos hc69, if_neg hc71] at kt
            exact pre76 t kt⟩
      ·
        have pre77 : ∀ t, Steps p.tables e below (T36.setTop (mkF m 213 #[.val (.int vs1), .val (.long vq1), .second, .val (.long vp1), .second, .val (.int vs2), .val (.long vq2), .second, .val (.long vp2), .second, .val (.int sa), .val (.long qa), .second, .val (.long pa), .second, .val (.int sb), .val (.long qb), .second, .val (.long pb), .second, .val (.ref b21), .val (.ref b24), .unset] [(.int (0 : Int32))])) t → Steps p.tables e below (s₁.setTop (entryFrame m #[(.int vs1), (.long vq1), (.long vp1), (.int vs2), (.long vq2), (.long vp2)] maxLocals)) t := by
          intro t kt
          refine pre67 t ?_
          show Steps p.tables e below (T36.setTop (mkF m 189 #[.val (.int vs1), .val (.long vq1), .second, .val (.long vp1), .second, .val (.int vs2), .val (.long vq2), .second, .val (.long vp2), .second, .val (.int sa), .val (.long qa), .second, .val (.long pa), .second, .val (.int sb), .val (.long qb), .second, .val (.long pb), .second, .val (.ref b21), .val (.ref b24), .unset] [(.int sb), (.int sa)])) _
          refine XS.icmpYes X36.here hx rfl (pc0 := 189) (pc' := 212) rfl (hb hby at_189) rfl (feq (hc69 : ¬ (sa = sb))).2 (by decide) (by decide) ?_
          show Steps p.tables e below (T36.setTop (mkF m 212 #[.val (.int vs1), .val (.long vq1), .second, .val (.long vp1), .second, .val (.int vs2), .val (.long vq2), .second, .val (.long vp2), .second, .val (.int sa), .val (.long qa), .second, .val (.long pa), .second, .val (.int sb), .val (.long qb), .second, .val (.long pb), .second, .val (.ref b21), .val (.ref b24), .unset] [])) _
          refine XS.iconst X36.here hx rfl (hb hby at_212) ?_
          exact kt
        exact ⟨T36, _, X36, e36q, N36, fun t kt => by
          simp only [if_neg hc69] at kt
          exact pre77 t kt⟩
    obtain ⟨cq78, kq78, q78a, q78b, q78c⟩ := isOf hZ e68 c31
    obtain ⟨_, _, ⟨T78, L78, k78, n78⟩, -, X78, ⟨Lc78, hQ78, l78, y78, z78⟩, st78⟩ := X68.virtualBack hx (y := (⟨"com/example/causeline/causeline/core/MessageId", "equals", "(Ljava/lang/Object;)Z"⟩ : MethodName)) (z := (⟨"com/example/causeline/causeline/core/MessageId", "equals", "(Ljava/lang/Object;)Z"⟩ : MethodName)) hown (mvT hZ (hw _ (List.mem_of_getElem? (i := 29) rfl))) (mvT hZ (hw _ (List.mem_of_getElem? (i := 30) rfl))) (notFace_of_selects (args := #[]) (mvT hZ (hw _ (List.mem_of_getElem? (i := 32) rfl)))) (mvT hZ (hw _ (List.mem_of_getElem? (i := 32) rfl))) (mvT hZ (hw _ (List.mem_of_getElem? (i := 31) rfl))) (by decide) (backOf (W := 0) (rm6 l Z a0 hw [] b21 b24 sa qa pa sb qb pb T30.heap n0 Z30 c31 c32 c33 c34 f30_0 f30_1 f30_2 f30_3) hZ (hw _ (List.mem_of_getElem? (i := 33) rfl)) (hw _ (List.mem_of_getElem? (i := 11) rfl)) (by decide) (by decide)) q78a q78c (g := (mkF m 219 #[.val (.int vs1), .val (.long vq1), .second, .val (.long vp1), .second, .val (.int vs2), .val (.long vq2), .second, .val (.long vp2), .second, .val (.int sa), .val (.long qa), .second, .val (.long pa), .second, .val (.int sb), .val (.long qb), .second, .val (.long pb), .second, .val (.ref b21), .val (.ref b24), .val (.int (if sa = sb then (if qa = qb then (if pa = pb then (1 : Int32) else (0 : Int32)) else (0 : Int32)) else (0 : Int32)))] [(.ref b24), (.ref b21)])) rfl (by rw [hml]; rfl) (Steps.refl _) (argsL := [(.ref b24)]) (rest := []) (lenOf pd_5 rfl) rfl (by show 2 * 0 + _ ≤ _; exact Nat.le_of_eq rfl) (hb hby at_219) (fun _ _ => ⟨rfl, e68, (by decide : 2 + 0 ≤ _), (by decide : 6 + 0 ≤ _)⟩)
    dsimp only [Pt.U, Pt.locs, Pt.cells, Pt.slots] at X78 l78 y78 z78 st78 hQ78
    subst l78 y78 z78
    obtain ⟨rfl, N78q, e78q⟩ := hQ78
    have N78 := Fr.app N68 N78q
    obtain ⟨cq79, kq79, q79a, q79b, q79c⟩ := isOf hZ e78q f30_0
    obtain ⟨_, _, ⟨T79, L79, k79, n79⟩, -, X79, ⟨Lc79, hQ79, l79, y79, z79⟩, st79⟩ := X78.virtualBack hx (y := (⟨"com/example/causeline/causeline/core/MessageId", "equals", "(Ljava/lang/Object;)Z"⟩ : MethodName)) (z := (⟨"com/example/causeline/causeline/core/MessageId", "equals", "(Ljava/lang/Object;)Z"⟩ : MethodName)) hown (mvT hZ (hw _ (List.mem_of_getElem? (i := 29) rfl))) (mvT hZ (hw _ (List.mem_of_getElem? (i := 30) rfl))) (notFace_of_selects (args := #[]) (mvT hZ (hw _ (List.mem_of_getElem? (i := 32) rfl)))) (mvT hZ (hw _ (List.mem_of_getElem? (i := 32) rfl))) (mvT hZ (hw _ (List.mem_of_getElem? (i := 31) rfl))) (by decide) (backOf (W := 0) (rm6 l Z a0 hw [] b24 b21 sb qb pb sa qa pa T30.heap n0 Z30 f30_0 f30_1 f30_2 f30_3 c31 c32 c33 c34) hZ (hw _ (List.mem_of_getElem? (i := 33) rfl)) (hw _ (List.mem_of_getElem? (i := 11) rfl)) (by decide) (by decide)) q79a q79c (g := (mkF m 231 #[.val (.int vs1), .val (.long vq1), .second, .val (.long vp1), .second, .val (.int vs2), .val (.long vq2), .second, .val (.long vp2), .second, .val (.int sa), .val (.long qa), .second, .val (.long pa), .second, .val (.int sb), .val (.long qb), .second, .val (.long pb), .second, .val (.ref b21), .val (.ref b24), .val (.int (if sa = sb then (if qa = qb then (if pa = pb then (1 : Int32) else (0 : Int32)) else (0 : Int32)) else (0 : Int32)))] [(.ref b21), (.ref b24)])) rfl (by rw [hml]; rfl) (Steps.refl _) (argsL := [(.ref b21)]) (rest := []) (lenOf pd_5 rfl) rfl (by show 2 * 0 + _ ≤ _; exact Nat.le_of_eq rfl) (hb hby at_231) (fun _ _ => ⟨rfl, e78q, (by decide : 2 + 0 ≤ _), (by decide : 6 + 0 ≤ _)⟩)
    dsimp only [Pt.U, Pt.locs, Pt.cells, Pt.slots] at X79 l79 y79 z79 st79 hQ79
    subst l79 y79 z79
    obtain ⟨rfl, N79q, e79q⟩ := hQ79
    have N79 := Fr.app N78 N79q
    obtain ⟨fs, hr, hrun, hended, hW, hsame⟩ := X79.leave (v := some (.int (1 : Int32))) (fun h => by rw [Bd.returns] at h; cases h)
    refine ⟨_, _, pre68 _ ?_, hrun, hended, _, _, rfl, ?_, ⟨_, rfl⟩, hW, hsame.mono (by decide) (by decide)⟩
    ·
      show Steps p.tables e below (T68.setTop (mkF m 213 #[.val (.int vs1), .val (.long vq1), .second, .val (.long vp1), .second, .val (.int vs2), .val (.long vq2), .second, .val (.long vp2), .second, .val (.int sa), .val (.long qa), .second, .val (.long pa), .second, .val (.int sb), .val (.long qb), .second, .val (.long pb), .second, .val (.ref b21), .val (.ref b24), .unset] [(.int (if sa = sb then (if qa = qb then (if pa = pb then (1 : Int32) else (0 : Int32)) else (0 : Int32)) else (0 : Int32)))])) _
      refine XS.istore X68.here hx rfl (hb hby at_213) rfl (l' := #[.val (.int vs1), .val (.long vq1), .second, .val (.long vp1), .second, .val (.int vs2), .val (.long vq2), .second, .val (.long vp2), .second, .val (.int sa), .val (.long qa), .second, .val (.long pa), .second, .val (.int sb), .val (.long qb), .second, .val (.long pb), .second, .val (.ref b21), .val (.ref b24), .val (.int (if sa = sb then (if qa = qb then (if pa = pb then (1 : Int32) else (0 : Int32)) else (0 : Int32)) else (0 : Int32)))]) rfl ?_
      show Steps p.tables e below (T68.setTop (mkF m 215 #[.val (.int vs1), .val (.long vq1), .second, .val (.long vp1), .second, .val (.int vs2), .val (.long vq2), .second, .val (.long vp2), .second, .val (.int sa), .val (.long qa), .second, .val (.long pa), .second, .val (.int sb), .val (.long qb), .second, .val (.long pb), .second, .val (.ref b21), .val (.ref b24), .val (.int (if sa = sb then (if qa = qb then (if pa = pb then (1 : Int32) else (0 : Int32)) else (0 : Int32)) else (0 : Int32)))] [])) _
      refine XS.aload X68.here hx rfl (hb hby at_215) rfl rfl ?_
      show Steps p.tables e below (T68.setTop (mkF m 217 #[.val (.int vs1), .val (.long vq1), .second, .val (.long vp1), .second, .val (.int vs2), .val (.long vq2), .second, .val (.long vp2), .second, .val (.int sa), .val (.long qa), .second, .val (.long pa), .second, .val (.int sb), .val (.long qb), .second, .val (.long pb), .second, .val (.ref b21), .val (.ref b24), .val (.int (if sa = sb then (if qa = qb then (if pa = pb then (1 : Int32) else (0 : Int32)) else (0 : Int32)) else (0 : Int32)))] [(.ref b21)])) _
      refine XS.aload X68.here hx rfl (hb hby at_217) rfl rfl ?_
      show Steps p.tables e below (T68.setTop (mkF m 219 #[.val (.int vs1), .val (.long vq1), .second, .val (.long vp1), .second, .val (.int vs2), .val (.long vq2), .second, .val (.long vp2), .second, .val (.int sa), .val (.long qa), .second, .val (.long pa), .second, .val (.int sb), .val (.long qb), .second, .val (.long pb), .second, .val (.ref b21), .val (.ref b24), .val (.int (if sa = sb then (if qa = qb then (if pa = pb then (1 : Int32) else (0 : Int32)) else (0 : Int32)) else (0 : Int32)))] [(.ref b24), (.ref b21)])) _
      refine st78.trans ?_
      show Steps p.tables e below (T78.setTop (mkF m 222 #[.val (.int vs1), .val (.long vq1), .second, .val (.long vp1), .second, .val (.int vs2), .val (.long vq2), .second, .val (.long vp2), .second, .val (.int sa), .val (.long qa), .second, .val (.long pa), .second, .val (.int sb), .val (.long qb), .second, .val (.long pb), .second, .val (.ref b21), .val (.ref b24), .val (.int (if sa = sb then (if qa = qb then (if pa = pb then (1 : Int32) else (0 : Int32)) else (0 : Int32)) else (0 : Int32)))] [(.int (own_eq b21 b24 sa qa pa sb qb pb))])) _
      refine XS.iload X78.here hx rfl (hb hby at_222) rfl ?_
      show Steps p.tables e below (T78.setTop (mkF m 224 #[.val (.int vs1), .val (.long vq1), .second, .val (.long vp1), .second, .val (.int vs2), .val (.long vq2), .second, .val (.long vp2), .second, .val (.int sa), .val (.long qa), .second, .val (.long pa), .second, .val (.int sb), .val (.long qb), .second, .val (.long pb), .second, .val (.ref b21), .val (.ref b24), .val (.int (if sa = sb then (if qa = qb then (if pa = pb then (1 : Int32) else (0 : Int32)) else (0 : Int32)) else (0 : Int32)))] [(.int (if sa = sb then (if qa = qb then (if pa = pb then (1 : Int32) else (0 : Int32)) else (0 : Int32)) else (0 : Int32))), (.int (own_eq b21 b24 sa qa pa sb qb pb))])) _
      refine XS.icmpNo X78.here hx rfl (hb hby at_224) rfl (teq ((own_eq_1 _ _ _ _ _ _ _ _) : (own_eq b21 b24 sa qa pa sb qb pb) = (if sa = sb then (if qa = qb then (if pa = pb then (1 : Int32) else (0 : Int32)) else (0 : Int32)) else (0 : Int32)))).2 ?_
      show Steps p.tables e below (T78.setTop (mkF m 227 #[.val (.int vs1), .val (.long vq1), .second, .val (.long vp1), .second, .val (.int vs2), .val (.long vq2), .second, .val (.long vp2), .second, .val (.int sa), .val (.long qa), .second, .val (.long pa), .second, .val (.int sb), .val (.long qb), .second, .val (.long pb), .second, .val (.ref b21), .val (.ref b24), .val (.int (if sa = sb then (if qa = qb then (if pa = pb then (1 : Int32) else (0 : Int32)) else (0 : Int32)) else (0 : Int32)))] [])) _
      refine XS.aload X78.here hx rfl (hb hby at_227) rfl rfl ?_
      show Steps p.tables e below (T78.setTop (mkF m 229 #[.val (.int vs1), .val (.long vq1), .second, .val (.long vp1), .second, .val (.int vs2), .val (.long vq2), .second, .val (.long vp2), .second, .val (.int sa), .val (.long qa), .second, .val (.long pa), .second, .val (.int sb), .val (.long qb), .second, .val (.long pb), .second, .val (.ref b21), .val (.ref b24), .val (.int (if sa = sb then (if qa = qb then (if pa = pb then (1 : Int32) else (0 : Int32)) else (0 : Int32)) else (0 : Int32)))] [(.ref b24)])) _
      refine XS.aload X78.here hx rfl (hb hby at_229) rfl rfl ?_
      show Steps p.tables e below (T78.setTop (mkF m 231 #[.val (.int vs1), .val (.long vq1), .second, .val (.long vp1), .second, .val (.int vs2), .val (.long vq2), .second, .val (.long vp2), .second, .val (.int sa), .val (.long qa), .second, .val (.long pa), .second, .val (.int sb), .val (.long qb), .second, .val (.long pb), .second, .val (.ref b21), .val (.ref b24), .val (.int (if sa = sb then (if qa = qb then (if pa = pb then (1 : Int32) else (0 : Int32)) else (0 : Int32)) else (0 : Int32)))] [(.ref b21), (.ref b24)])) _
      refine st79.trans ?_
      show Steps p.tables e below (T79.setTop (mkF m 234 #[.val (.int vs1), .val (.long vq1), .second, .val (.long vp1), .second, .val (.int vs2), .val (.long vq2), .second, .val (.long vp2), .second, .val (.int sa), .val (.long qa), .second, .val (.long pa), .second, .val (.int sb), .val (.long qb), .second, .val (.long pb), .second, .val (.ref b21), .val (.ref b24), .val (.int (if sa = sb then (if qa = qb then (if pa = pb then (1 : Int32) else (0 : Int32)) else (0 : Int32)) else (0 : Int32)))] [(.int (own_eq b24 b21 sb qb pb sa qa pa))])) _
      refine XS.iload X79.here hx rfl (hb hby at_234) rfl ?_
      show Steps p.tables e below (T79.setTop (mkF m 236 #[.val (.int vs1), .val (.long vq1), .second, .val (.long vp1), .second, .val (.int vs2), .val (.long vq2), .second, .val (.long vp2), .second, .val (.int sa), .val (.long qa), .second, .val (.long pa), .second, .val (.int sb), .val (.long qb), .second, .val (.long pb), .second, .val (.ref b21), .val (.ref b24), .val (.int (if sa = sb then (if qa = qb then (if pa = pb then (1 : Int32) else (0 : Int32)) else (0 : Int32)) else (0 : Int32)))] [(.int (if sa = sb then (if qa = qb then (if pa = pb then (1 : Int32) else (0 : Int32)) else (0 : Int32)) else (0 : Int32))), (.int (own_eq b24 b21 sb qb pb sa qa pa))])) _
      refine XS.icmpNo X79.here hx rfl (hb hby at_236) rfl (teq ((own_eq_2 _ _ _ _ _ _ _ _) : (own_eq b24 b21 sb qb pb sa qa pa) = (if sa = sb then (if qa = qb then (if pa = pb then (1 : Int32) else (0 : Int32)) else (0 : Int32)) else (0 : Int32)))).2 ?_
      show Steps p.tables e below (T79.setTop (mkF m 239 #[.val (.int vs1), .val (.long vq1), .second, .val (.long vp1), .second, .val (.int vs2), .val (.long vq2), .second, .val (.long vp2), .second, .val (.int sa), .val (.long qa), .second, .val (.long pa), .second, .val (.int sb), .val (.long qb), .second, .val (.long pb), .second, .val (.ref b21), .val (.ref b24), .val (.int (if sa = sb then (if qa = qb then (if pa = pb then (1 : Int32) else (0 : Int32)) else (0 : Int32)) else (0 : Int32)))] [])) _
      refine XS.iconst X79.here hx rfl (hb hby at_239) ?_
      show Steps p.tables e below (T79.setTop (mkF m 240 #[.val (.int vs1), .val (.long vq1), .second, .val (.long vp1), .second, .val (.int vs2), .val (.long vq2), .second, .val (.long vp2), .second, .val (.int sa), .val (.long qa), .second, .val (.long pa), .second, .val (.int sb), .val (.long qb), .second, .val (.long pb), .second, .val (.ref b21), .val (.ref b24), .val (.int (if sa = sb then (if qa = qb then (if pa = pb then (1 : Int32) else (0 : Int32)) else (0 : Int32)) else (0 : Int32)))] [(.int (1 : Int32))])) _
      refine XS.goto X79.here hx rfl (pc0 := 240) (pc' := 244) rfl (hb hby at_240) (by decide) (by decide) ?_
      show Steps p.tables e below (T79.setTop (mkF m 244 #[.val (.int vs1), .val (.long vq1), .second, .val (.long vp1), .second, .val (.int vs2), .val (.long vq2), .second, .val (.long vp2), .second, .val (.int sa), .val (.long qa), .second, .val (.long pa), .second, .val (.int sb), .val (.long qb), .second, .val (.long pb), .second, .val (.ref b21), .val (.ref b24), .val (.int (if sa = sb then (if qa = qb then (if pa = pb then (1 : Int32) else (0 : Int32)) else (0 : Int32)) else (0 : Int32)))] [(.int (1 : Int32))])) _
      exact retN X79 hx (t := .boolean) Bd.returns (by simp) (hb hby at_244) hr
    ·
      show Q0 Z vs1 vq1 vp1 vs2 vq2 vp2 vc cl h0 n0 _ T79.heap _
      rw [e79q]
      exact ⟨rfl, N79⟩
theorem own_cache {s : State} {args : Array Value} {vc : Addr} {cl : Cell} {c : Cond} (evc : (Term.static "java/lang/Integer$IntegerCache" "cache" "[Ljava/lang/Integer;").eval args s none [] s = some (.ref vc)) (Arc : Arr s s.heap vc cl (.object "java/lang/Integer")) (hlen : (Cond.eq (.length (.static "java/lang/Integer$IntegerCache" "cache" "[Ljava/lang/Integer;")) (.int (256 : Int32))).value args s none s [] = some true)
    (hall : (Cond.all (.static "java/lang/Integer$IntegerCache" "cache" "[Ljava/lang/Integer;") (.and (.exactly (.elem (.static "java/lang/Integer$IntegerCache" "cache" "[Ljava/lang/Integer;") (.index 0)) "java/lang/Integer") c)).value args s none s [] = some true) :
    cl.slots.size = (256 : Int32).toNatClampNeg ∧ ∀ j : Int32, ¬ (j < 0 ∨ cl.slots.size ≤ j.toNatClampNeg) → ∃ x : Addr, cl.slots[j.toNatClampNeg]? = some (.ref x) ∧ Exa s s.heap x "java/lang/Integer" := by
  have hat : s.arrayAt? vc = some cl := Arc.fin (Vm.Alike.refl _)
  obtain ⟨x, y, e1, e2, k1, k2⟩ := cmp_v (Or.inl hlen)
  have hsm : cl.slots.size < 2 ^ 31 := by
    rcases Nat.lt_or_ge cl.slots.size (2 ^ 31) with q | q
    · exact q
    · have hno : (Term.length (.static "java/lang/Integer$IntegerCache" "cache" "[Ljava/lang/Integer;")).eval args s none [] s = none := by
        rw [Term.eval, evc]; simp [hat, Nat.not_lt.mpr q]
      rw [hno] at e1; cases e1
  have e1' := len_f evc hat hsm
  have hz : cl.slots.size.toInt32 = (256 : Int32) := by
    have e2' : (Term.int (256 : Int32)).eval args s none [] s = some (.int (256 : Int32)) := rfl
    simpa only [Cond.value, e1', e2', Option.some.injEq, decide_eq_true_eq] using hlen
  have hn : (cl.slots.size : Int) = 256 := by rw [← len_toInt hsm, hz]; rfl
  have h256 : (256 : Int32).toNatClampNeg = 256 := rfl
  refine ⟨by rw [h256]; omega, fun j hj => ?_⟩
  have hi : j.toNatClampNeg < cl.slots.size := Nat.lt_of_not_le fun q => hj (Or.inr q)
  obtain ⟨hx, -⟩ := and_e (Cond.all_elim evc hat hall j.toNatClampNeg hi)
  obtain ⟨x, c', cell, k, f1, f2, f3, f4, f5, rfl, f7⟩ := Cond.exactly_spec (beq_iff_eq.mpr hx : (Cond.exactly _ _).holds args s none s [j.toNatClampNeg] = true)
  obtain ⟨cl', g1, g2, g3⟩ := elem_at f1 (show (Term.static "java/lang/Integer$IntegerCache" "cache" "[Ljava/lang/Integer;").eval args s none [j.toNatClampNeg] s = some (.ref vc) from evc) (j := j.toNatClampNeg.toInt32) rfl
  cases Arc.1.symm.trans g1
  have hj2 : j.toNatClampNeg.toInt32.toNatClampNeg = j.toNatClampNeg := by
    have := len_toInt (n := j.toNatClampNeg) (by omega)
    show (j.toNatClampNeg.toInt32).toInt.toNat = _
    omega
  rw [hj2] at g3
  exact ⟨x, g3, cell, k, f3, f2, f4, f5, f7⟩
set_option maxRecDepth 65536 in
set_option maxHeartbeats 40000000 in
theorem comes_1 {Post : Tables → Env → Array Value → State → Outcome → State → Prop} (hpost : ∀ tb e args s v u, (limb_1_1.after args s (.returned v) u = true ∧ limb_1_2.after args s (.returned v) u = true ∧ True) → FrameEnd s (.returned v) u (Jvm.fieldLocs frame_1_writes args s ++ Jvm.arrayLocs frame_1_arrays args s ++ Jvm.staticLocs frame_1_statics s) 16 128 → Post tb e args s (.returned v) u) :
    ArmFor flags0 classFile x code maxLocals ret World_1 tables_1 room_1 Calls_1 rest_1 Pre_1 Post := by
  intro l hfl _ _ p e ha hc hk s m args below hf hA hF happ hP
  obtain ⟨hcalls, hrest, hpre⟩ := hP
  obtain ⟨-, -, -, hnamed, -, -, -, hat⟩ := (Spec.applies_iff hf).mp happ
  obtain ⟨hg, hn⟩ := and_e (Cond.before_iff.mp (show (Jvm.Cond.and given_1 narrow_1).before args s = true from hpre))
  obtain ⟨g1a, g1b⟩ := and_e hg
  obtain ⟨g2a, g2b⟩ := and_e g1b
  obtain ⟨g3a, g3b⟩ := and_e g2b
  obtain ⟨g4a, g4b⟩ := and_e g3b
  obtain ⟨g5a, g5b⟩ := and_e g4b
  obtain ⟨g6a, g6b⟩ := and_e g5b
  obtain ⟨w0, w1, w2, w3, w4, w5, rfl⟩ : ∃ w0 w1 w2 w3 w4 w5 : Value, args = #[w0, w1, w2, w3, w4, w5] := by
    have hs : args.size = 6 := by simpa [Cond.value, given_1] using g1a
    obtain ⟨L⟩ := args
    match L, hs with
    | [w0, w1, w2, w3, w4, w5], _ => exact ⟨w0, w1, w2, w3, w4, w5, rfl⟩
  have hw := fun d (hd : d ∈ tables_1) => atoms_spec (ws := Jvm.Cond.code x code maxLocals ret :: tables_1) hat d (List.mem_cons_of_mem _ hd)
  have hfit : Fit s := fun {y c} hc i hi => by
    obtain ⟨ha, rfl⟩ := Array.getElem?_eq_some_iff.mp hc
    have q := List.all_eq_true.mp ((Array.all_eq_true_iff_forall_mem.mp hF) _ (Array.getElem_mem ha)) i (List.mem_range.mpr hi)
    simpa [Array.getElem?_eq_getElem hi] using q
  obtain ⟨hsets, hown0⟩ := atoms_of _ (rest_1_c_eq ▸ (show rest_1_c.before _ s = true from hrest))
  have hr0 := Cond.before_iff.mp hown0
  obtain ⟨vs1, ei0⟩ := is_v g2a
  obtain rfl : w0 = (.int vs1) := Option.some.inj ei0
  obtain ⟨vq1, ei1⟩ := isL_v g3a
  obtain rfl : w1 = (.long vq1) := Option.some.inj ei1
  obtain ⟨vp1, ei2⟩ := isL_v g4a
  obtain rfl : w2 = (.long vp1) := Option.some.inj ei2
  obtain ⟨vs2, ei3⟩ := is_v g5a
  obtain rfl : w3 = (.int vs2) := Option.some.inj ei3
  obtain ⟨vq2, ei4⟩ := isL_v g6a
  obtain rfl : w4 = (.long vq2) := Option.some.inj ei4
  obtain ⟨vp2, ei5⟩ := isL_v g6b
  obtain rfl : w5 = (.long vp2) := Option.some.inj ei5
  have hc4 := Cond.before_iff.mp (hsets _ (List.mem_of_getElem? (i := 4) rfl))
  obtain ⟨vc, evc⟩ := arr_v hc4
  have S_cache : Sta s s.heap "java/lang/Integer$IntegerCache" "cache" "[Ljava/lang/Integer;" (.ref vc) := Sta.start evc (Or.inr ⟨(hw _ (List.mem_of_getElem? (i := 41) rfl)), (hsets _ (List.mem_of_getElem? (i := 2) rfl))⟩)
  obtain ⟨vh, yh, eh1, eh2, kh1, kh2⟩ := cmp_v (Or.inl (Cond.before_iff.mp (hsets _ (List.mem_of_getElem? (i := 3) rfl))))
  obtain rfl : (.int (127 : Int32)) = yh := Option.some.inj eh2
  obtain ⟨vh', rfl⟩ := kh2
  obtain rfl : vh' = (127 : Int32) := by have q := Cond.before_iff.mp (hsets _ (List.mem_of_getElem? (i := 3) rfl)); simpa [Cond.value, eh1, eh2] using q
  have S_high : Sta s s.heap "java/lang/Integer$IntegerCache" "high" "I" (.int (127 : Int32)) := Sta.start eh1 (Or.inr ⟨(hw _ (List.mem_of_getElem? (i := 41) rfl)), (hsets _ (List.mem_of_getElem? (i := 0) rfl))⟩)
  obtain ⟨cl, Arc⟩ := Arr.start evc hc4
  have hlen := Cond.before_iff.mp (hsets _ (List.mem_of_getElem? (i := 6) rfl))
  have hall := Cond.before_iff.mp (hsets _ (List.mem_of_getElem? (i := 7) rfl))
  obtain ⟨hsz, hel⟩ := own_cache evc Arc hlen hall
  obtain ⟨n, o, h1, h2, h3, _, L, rfl, ⟨rfl, N⟩, hq⟩ := rm0 l s _ hw tables_1 vs1 vq1 vp1 vs2 vq2 vp2 vc cl s.heap s.heap.size (Nat.le_refl _) S_high S_cache Arc hsz hel p e ha hc hk s m _ below hf ((Spec.applies_iff_loose hf).mp happ).1 ⟨rfl, State.Warmed39.refl s, rfl⟩ trivial
  refine ⟨n, _, h1, h2, h3, hpost _ _ _ _ _ _ ⟨Cond.after_iff.mpr rfl, Cond.after_iff.mpr (eq_i res_at (Term.int_eval (1)) rfl), trivial⟩ ⟨hq.1, hq.2.1, (hq.2.2.sift fun y hy => Or.inr (N y hy)).mono (by decide) (by decide)⟩⟩
theorem main_1_1 : Claimed_1_1 := comes_1 fun _ _ _ _ _ _ h hF => ⟨h.1, hF⟩
theorem main_1_2 : Claimed_1_2 := comes_1 fun _ _ _ _ _ _ h hF => ⟨h.2.1, hF⟩
end Jvm.Pilot.@@N@@
namespace Jvm.Pilot.@@N@@
open Jvm Jvm.ClassFile Sem Op Lib Jvm.Free Jvm.Stand Jvm.Pilot.@@N@@.Jvm.D
/-! MADE BY PROGRAM (witnessworld.py) out of the Statement's table words and the real class files: 18 classes; the members and pool entries that the words name. The judged class is class 1, her method 1. -/
namespace start1
open Jvm.ClassFile
def u (s : String) : CpInfo := .utf8 (stringToUtf16 s)
/-- a pool by its gaps: so many unusable entries, then the entry; so many at the end -/
def gap : Nat → List CpInfo → List CpInfo
  | 0, r => r
  | n + 1, r => .unusable :: gap n r
def poolList (es : List (Nat × CpInfo)) (last : Nat) : List CpInfo := es.foldr (fun e r => gap e.1 (e.2 :: r)) (gap last [])
def pool (es : List (Nat × CpInfo)) (last : Nat) : Array CpInfo := ⟨poolList es last⟩
def fileOf (pool : Array CpInfo) (this : Nat) (attrs : Array Attribute := #[]) (ms : Array MethodInfo := #[]) (fl : Nat := 33) (sup : Nat := 0) (ifs : Array Nat := #[]) (fds : Array FieldInfo := #[]) : ClassFile where
  minorVersion := 0
  majorVersion := 65
  constantPool := pool
  accessFlags := fl
  thisClass := this
  superClass := sup
  interfaces := ifs
  fields := fds
  methods := ms
  attributes := attrs
def plain (name : String) (sup : Option ClassId) : Class where
  name := name
  kind := .ordinary
  loader := none
  accessFlags := 33
  super := sup
  interfaces := #[]
  cf := none
  fields := #[]
  methods := #[]
  instanceTypes := #[]
  staticTypes := #[]
  resolved := #[]
  callSites := []
  init := .initialized
  statics := none
  mirror := none

def pool0 : Array CpInfo := pool [(5, u "<init>"), (0, u "()V"), (1, .class_ 10), (1, u "java/lang/Object")] 113

def k0c0 : Code := { maxStack := 0, maxLocals := 1, code := object_method_1_code, exceptionTable := #[], attributes := #[] }
def k0m0 : Method := { name := "<init>", desc := "()V", sig := { parameters := [], returnType := none }, accessFlags := 1, code := some k0c0 }
/-- java/lang/Object -/
def k0 : Class := { plain "java/lang/Object" none with
  accessFlags := 33
  interfaces := #[]
  cf := some (fileOf pool0 8 #[] #[{ accessFlags := 1, nameIndex := 5, descriptorIndex := 6, attributes := #[] }] 33 0 #[] #[])
  fields := #[]
  methods := #[k0m0]
  instanceTypes := #[]
  staticTypes := #[]
  resolved := Array.replicate 124 none
  statics := none }

def pool1 : Array CpInfo := pool [(2, .class_ 4), (1, u "java/lang/Object"), (0, u "<init>"), (0, u "()V"), (0, .integer 2147483647), (0, .methodref 9 10), (0, .class_ 11), (0, .nameAndType 12 13), (0, u "java/lang/Math"), (0, u "max"), (0, u "(II)I"), (2, .long 9223372036854775807), (1, .methodref 9 19), (0, .nameAndType 12 20), (0, u "(JJ)J"), (0, .class_ 22), (0, u "com/example/causeline/causeline/core/MessageId"), (0, .methodref 21 24), (0, .nameAndType 5 25), (0, u "(IJJ)V"), (0, .methodref 21 27), (0, .nameAndType 28 29), (0, u "equals"), (0, u "(Ljava/lang/Object;)Z"), (0, .methodref 31 32), (0, .class_ 33), (0, .nameAndType 34 35), (0, u "java/lang/Integer"), (0, u "valueOf"), (0, u "(I)Ljava/lang/Integer;"), (0, .class_ 37), (0, u "com/example/causeline/causeline/core/MessageIdEqualsPinLaw"), (2, u "law"), (0, u "(IJJIJJ)Z")] 3

def k1m0 : Method := { name := "<init>", desc := "()V", sig := { parameters := [], returnType := none }, accessFlags := 1, code := none }
def k1c1 : Code := { maxStack := 7, maxLocals := 23, code := code, exceptionTable := #[], attributes := #[] }
def k1m1 : Method := { name := "law", desc := "(IJJIJJ)Z", sig := { parameters := [.int, .long, .long, .int, .long, .long], returnType := some .boolean }, accessFlags := 9, code := some k1c1 }
/-- com/example/causeline/causeline/core/MessageIdEqualsPinLaw -/
def k1 : Class := { plain "com/example/causeline/causeline/core/MessageIdEqualsPinLaw" (some 0) with
  accessFlags := 49
  interfaces := #[]
  cf := some (fileOf pool1 36 #[] #[{ accessFlags := 1, nameIndex := 5, descriptorIndex := 6, attributes := #[] }, { accessFlags := 9, nameIndex := 40, descriptorIndex := 41, attributes := #[] }] 49 2 #[] #[])
  fields := #[]
  methods := #[k1m0, k1m1]
  instanceTypes := #[]
  staticTypes := #[]
  resolved := Array.replicate 45 none
  statics := none }

def pool2 : Array CpInfo := pool [(1, .class_ 2), (0, u "java/lang/Math"), (1, .class_ 6), (1, u "java/lang/Object"), (0, u "<init>"), (0, u "()V"), (89, .class_ 100), (1, u "java/lang/Math$RandomNumberGeneratorHolder"), (20, u "(JJ)J"), (50, u "negativeZeroFloatBits"), (0, u "J"), (2, u "negativeZeroDoubleBits"), (21, u "max"), (46, u "$assertionsDisabled"), (0, u "Z"), (88, u "(II)I"), (2, u "twoToTheDoubleScaleDown"), (0, u "D"), (4, u "twoToTheDoubleScaleUp"), (9, u "E"), (3, u "PI"), (2, u "TAU"), (2, u "DEGREES_TO_RADIANS"), (0, u "RADIANS_TO_DEGREES")] 94

def k2m0 : Method := { name := "<init>", desc := "()V", sig := { parameters := [], returnType := none }, accessFlags := 2, code := none }
def k2c1 : Code := { maxStack := 2, maxLocals := 2, code := jdk_29_method_65_code, exceptionTable := #[], attributes := #[] }
def k2m1 : Method := { name := "max", desc := "(II)I", sig := { parameters := [.int, .int], returnType := some .int }, accessFlags := 9, code := some k2c1 }
def k2c2 : Code := { maxStack := 4, maxLocals := 4, code := jdk_29_method_66_code, exceptionTable := #[], attributes := #[] }
def k2m2 : Method := { name := "max", desc := "(JJ)J", sig := { parameters := [.long, .long], returnType := some .long }, accessFlags := 9, code := some k2c2 }
/-- java/lang/Math -/
def k2 : Class := { plain "java/lang/Math" (some 0) with
  accessFlags := 49
  interfaces := #[]
  cf := some (fileOf pool2 1 #[.nestMembers #[98]] #[{ accessFlags := 2, nameIndex := 7, descriptorIndex := 8, attributes := #[] }, { accessFlags := 9, nameIndex := 198, descriptorIndex := 335, attributes := #[] }, { accessFlags := 9, nameIndex := 198, descriptorIndex := 121, attributes := #[] }] 49 4 #[] #[{ accessFlags := 25, nameIndex := 354, descriptorIndex := 339, attributes := #[] }, { accessFlags := 25, nameIndex := 358, descriptorIndex := 339, attributes := #[] }, { accessFlags := 25, nameIndex := 361, descriptorIndex := 339, attributes := #[] }, { accessFlags := 26, nameIndex := 364, descriptorIndex := 339, attributes := #[] }, { accessFlags := 26, nameIndex := 365, descriptorIndex := 339, attributes := #[] }, { accessFlags := 26, nameIndex := 172, descriptorIndex := 173, attributes := #[] }, { accessFlags := 26, nameIndex := 176, descriptorIndex := 173, attributes := #[] }, { accessFlags := 8, nameIndex := 344, descriptorIndex := 339, attributes := #[] }, { accessFlags := 8, nameIndex := 338, descriptorIndex := 339, attributes := #[] }, { accessFlags := 4120, nameIndex := 245, descriptorIndex := 246, attributes := #[] }])
  fields := #[{ name := "E", type := .double, accessFlags := 25, slot := 0, constantValue := 0 }, { name := "PI", type := .double, accessFlags := 25, slot := 1, constantValue := 0 }, { name := "TAU", type := .double, accessFlags := 25, slot := 2, constantValue := 0 }, { name := "DEGREES_TO_RADIANS", type := .double, accessFlags := 26, slot := 3, constantValue := 0 }, { name := "RADIANS_TO_DEGREES", type := .double, accessFlags := 26, slot := 4, constantValue := 0 }, { name := "negativeZeroFloatBits", type := .long, accessFlags := 26, slot := 5, constantValue := 0 }, { name := "negativeZeroDoubleBits", type := .long, accessFlags := 26, slot := 6, constantValue := 0 }, { name := "twoToTheDoubleScaleUp", type := .double, accessFlags := 8, slot := 7, constantValue := 0 }, { name := "twoToTheDoubleScaleDown", type := .double, accessFlags := 8, slot := 8, constantValue := 0 }, { name := "$assertionsDisabled", type := .boolean, accessFlags := 4120, slot := 9, constantValue := 0 }]
  methods := #[k2m0, k2m1, k2m2]
  instanceTypes := #[]
  staticTypes := #[.double, .double, .double, .double, .double, .long, .long, .double, .double, .boolean]
  resolved := Array.replicate 460 none
  statics := none }

def pool3 : Array CpInfo := pool [(1, .methodref 2 3), (0, .class_ 4), (0, .nameAndType 5 6), (0, u "java/lang/Object"), (0, u "<init>"), (0, u "()V"), (0, .class_ 8), (0, u "java/lang/Record")] 13

def k3c0 : Code := { maxStack := 1, maxLocals := 1, code := jdk_30_method_1_code, exceptionTable := #[], attributes := #[] }
def k3m0 : Method := { name := "<init>", desc := "()V", sig := { parameters := [], returnType := none }, accessFlags := 4, code := some k3c0 }
/-- java/lang/Record -/
def k3 : Class := { plain "java/lang/Record" (some 0) with
  accessFlags := 1057
  interfaces := #[]
  cf := some (fileOf pool3 7 #[] #[{ accessFlags := 4, nameIndex := 5, descriptorIndex := 6, attributes := #[] }] 1057 2 #[] #[])
  fields := #[]
  methods := #[k3m0]
  instanceTypes := #[]
  staticTypes := #[]
  resolved := Array.replicate 22 none
  statics := none }

def pool4 : Array CpInfo := pool [(1, .methodref 2 3), (0, .class_ 4), (0, .nameAndType 5 6), (0, u "java/lang/Record"), (0, u "<init>"), (0, u "()V"), (9, .fieldref 17 18), (0, .class_ 19), (0, .nameAndType 20 21), (0, u "com/example/causeline/causeline/core/MessageId"), (0, u "sender"), (0, u "I"), (0, .fieldref 17 23), (0, .nameAndType 24 25), (0, u "sequence"), (0, u "J"), (0, .fieldref 17 27), (0, .nameAndType 28 25), (0, u "position"), (2, u "(IJJ)V"), (2, u "NAME"), (0, u "Ljava/util/regex/Pattern;"), (60, u "MIX"), (12, u "equals"), (0, u "(Ljava/lang/Object;)Z")] 32

def k4c0 : Code := { maxStack := 7, maxLocals := 6, code := prog_51_method_1_code, exceptionTable := #[], attributes := #[] }
def k4m0 : Method := { name := "<init>", desc := "(IJJ)V", sig := { parameters := [.int, .long, .long], returnType := none }, accessFlags := 1, code := some k4c0 }
def k4c1 : Code := { maxStack := 4, maxLocals := 3, code := prog_51_method_5_code, exceptionTable := #[], attributes := #[] }
def k4m1 : Method := { name := "equals", desc := "(Ljava/lang/Object;)Z", sig := { parameters := [(.object "java/lang/Object")], returnType := some .boolean }, accessFlags := 1, code := some k4c1 }
/-- com/example/causeline/causeline/core/MessageId -/
def k4 : Class := { plain "com/example/causeline/causeline/core/MessageId" (some 3) with
  accessFlags := 49
  interfaces := #[]
  cf := some (fileOf pool4 17 #[] #[{ accessFlags := 1, nameIndex := 5, descriptorIndex := 31, attributes := #[] }, { accessFlags := 1, nameIndex := 109, descriptorIndex := 110, attributes := #[] }] 49 2 #[] #[{ accessFlags := 18, nameIndex := 20, descriptorIndex := 21, attributes := #[] }, { accessFlags := 18, nameIndex := 24, descriptorIndex := 25, attributes := #[] }, { accessFlags := 18, nameIndex := 28, descriptorIndex := 25, attributes := #[] }, { accessFlags := 26, nameIndex := 34, descriptorIndex := 35, attributes := #[] }, { accessFlags := 26, nameIndex := 96, descriptorIndex := 25, attributes := #[] }])
  fields := #[{ name := "sender", type := .int, accessFlags := 18, slot := 0, constantValue := 0 }, { name := "sequence", type := .long, accessFlags := 18, slot := 1, constantValue := 0 }, { name := "position", type := .long, accessFlags := 18, slot := 2, constantValue := 0 }, { name := "NAME", type := (.object "java/util/regex/Pattern"), accessFlags := 26, slot := 0, constantValue := 0 }, { name := "MIX", type := .long, accessFlags := 26, slot := 1, constantValue := 0 }]
  methods := #[k4m0, k4m1]
  instanceTypes := #[.int, .long, .long]
  staticTypes := #[(.object "java/util/regex/Pattern"), .long]
  resolved := Array.replicate 143 none
  statics := none }

def pool5 : Array CpInfo := pool [(1, .class_ 2), (0, u "java/io/Serializable"), (0, .class_ 4), (0, u "java/lang/Object")] 2

/-- java/io/Serializable -/
def k5 : Class := { plain "java/io/Serializable" (some 0) with
  accessFlags := 1537
  interfaces := #[]
  cf := some (fileOf pool5 1 #[] #[] 1537 3 #[] #[])
  fields := #[]
  methods := #[]
  instanceTypes := #[]
  staticTypes := #[]
  resolved := Array.replicate 7 none
  statics := none }

def pool6 : Array CpInfo := pool [(1, .methodref 2 3), (0, .class_ 4), (0, .nameAndType 5 6), (0, u "java/lang/Object"), (0, u "<init>"), (0, u "()V"), (1, .class_ 10), (1, u "java/lang/Number"), (2, .class_ 14), (0, u "java/io/Serializable"), (0, u "serialVersionUID"), (0, u "J")] 20

def k6c0 : Code := { maxStack := 1, maxLocals := 1, code := jdk_18_method_1_code, exceptionTable := #[], attributes := #[] }
def k6m0 : Method := { name := "<init>", desc := "()V", sig := { parameters := [], returnType := none }, accessFlags := 1, code := some k6c0 }
/-- java/lang/Number -/
def k6 : Class := { plain "java/lang/Number" (some 0) with
  accessFlags := 1057
  interfaces := #[5]
  cf := some (fileOf pool6 8 #[] #[{ accessFlags := 1, nameIndex := 5, descriptorIndex := 6, attributes := #[] }] 1057 2 #[13] #[{ accessFlags := 26, nameIndex := 15, descriptorIndex := 16, attributes := #[] }])
  fields := #[{ name := "serialVersionUID", type := .long, accessFlags := 26, slot := 0, constantValue := 0 }]
  methods := #[k6m0]
  instanceTypes := #[]
  staticTypes := #[.long]
  resolved := Array.replicate 37 none
  statics := none }

def pool7 : Array CpInfo := pool [(1, .class_ 2), (0, u "java/lang/Comparable"), (0, .class_ 4), (0, u "java/lang/Object")] 7

/-- java/lang/Comparable -/
def k7 : Class := { plain "java/lang/Comparable" (some 0) with
  accessFlags := 1537
  interfaces := #[]
  cf := some (fileOf pool7 1 #[] #[] 1537 3 #[] #[])
  fields := #[]
  methods := #[]
  instanceTypes := #[]
  staticTypes := #[]
  resolved := Array.replicate 12 none
  statics := none }

def pool8 : Array CpInfo := pool [(1, .class_ 2), (0, u "java/lang/constant/Constable"), (0, .class_ 4), (0, u "java/lang/Object")] 6

/-- java/lang/constant/Constable -/
def k8 : Class := { plain "java/lang/constant/Constable" (some 0) with
  accessFlags := 1537
  interfaces := #[]
  cf := some (fileOf pool8 1 #[] #[] 1537 3 #[] #[])
  fields := #[]
  methods := #[]
  instanceTypes := #[]
  staticTypes := #[]
  resolved := Array.replicate 11 none
  statics := none }

def pool9 : Array CpInfo := pool [(1, .class_ 2), (0, u "java/lang/constant/ConstantDesc"), (0, .class_ 4), (0, u "java/lang/Object")] 32

/-- java/lang/constant/ConstantDesc -/
def k9 : Class := { plain "java/lang/constant/ConstantDesc" (some 0) with
  accessFlags := 1537
  interfaces := #[]
  cf := some (fileOf pool9 1 #[] #[] 1537 3 #[] #[])
  fields := #[]
  methods := #[]
  instanceTypes := #[]
  staticTypes := #[]
  resolved := Array.replicate 37 none
  statics := none }

def pool10 : Array CpInfo := pool [(1, .class_ 2), (0, u "java/lang/Integer"), (16, u "digits"), (0, u "[C"), (46, u "<init>"), (17, u "DigitOnes"), (0, u "[B"), (2, u "DigitTens"), (10, .nameAndType 67 101), (0, u "()V"), (85, u "valueOf"), (0, u "(I)Ljava/lang/Integer;"), (0, .class_ 190), (0, u "java/lang/Integer$IntegerCache"), (0, .fieldref 189 192), (0, .nameAndType 193 194), (0, u "high"), (0, u "I"), (0, .fieldref 189 196), (0, .nameAndType 197 198), (0, u "cache"), (0, u "[Ljava/lang/Integer;"), (0, .methodref 1 200), (0, .nameAndType 67 201), (0, u "(I)V"), (0, .methodref 203 100), (0, .class_ 204), (0, u "java/lang/Number"), (0, .fieldref 1 206), (0, .nameAndType 207 194), (0, u "value"), (94, u "TYPE"), (0, u "Ljava/lang/Class;"), (0, .class_ 305), (0, u "java/lang/Comparable"), (0, .class_ 307), (0, u "java/lang/constant/Constable"), (0, .class_ 309), (0, u "java/lang/constant/ConstantDesc"), (0, u "MIN_VALUE"), (1, u "MAX_VALUE"), (3, u "SIZE"), (1, u "BYTES"), (1, u "serialVersionUID"), (0, u "J")] 131

def k10c0 : Code := { maxStack := 3, maxLocals := 1, code := jdk_33_method_22_code, exceptionTable := #[], attributes := #[] }
def k10m0 : Method := { name := "valueOf", desc := "(I)Ljava/lang/Integer;", sig := { parameters := [.int], returnType := some (.object "java/lang/Integer") }, accessFlags := 9, code := some k10c0 }
def k10c1 : Code := { maxStack := 2, maxLocals := 2, code := jdk_33_method_23_code, exceptionTable := #[], attributes := #[] }
def k10m1 : Method := { name := "<init>", desc := "(I)V", sig := { parameters := [.int], returnType := none }, accessFlags := 1, code := some k10c1 }
/-- java/lang/Integer -/
def k10 : Class := { plain "java/lang/Integer" (some 6) with
  accessFlags := 49
  interfaces := #[7, 8, 9]
  cf := some (fileOf pool10 1 #[.nestMembers #[189]] #[{ accessFlags := 9, nameIndex := 187, descriptorIndex := 188, attributes := #[] }, { accessFlags := 1, nameIndex := 67, descriptorIndex := 201, attributes := #[] }] 49 203 #[304, 306, 308] #[{ accessFlags := 25, nameIndex := 310, descriptorIndex := 194, attributes := #[] }, { accessFlags := 25, nameIndex := 312, descriptorIndex := 194, attributes := #[] }, { accessFlags := 25, nameIndex := 302, descriptorIndex := 303, attributes := #[] }, { accessFlags := 24, nameIndex := 19, descriptorIndex := 20, attributes := #[] }, { accessFlags := 24, nameIndex := 89, descriptorIndex := 86, attributes := #[] }, { accessFlags := 24, nameIndex := 85, descriptorIndex := 86, attributes := #[] }, { accessFlags := 18, nameIndex := 207, descriptorIndex := 194, attributes := #[] }, { accessFlags := 25, nameIndex := 316, descriptorIndex := 194, attributes := #[] }, { accessFlags := 25, nameIndex := 318, descriptorIndex := 194, attributes := #[] }, { accessFlags := 26, nameIndex := 320, descriptorIndex := 321, attributes := #[] }])
  fields := #[{ name := "MIN_VALUE", type := .int, accessFlags := 25, slot := 0, constantValue := 0 }, { name := "MAX_VALUE", type := .int, accessFlags := 25, slot := 1, constantValue := 0 }, { name := "TYPE", type := (.object "java/lang/Class"), accessFlags := 25, slot := 2, constantValue := 0 }, { name := "digits", type := (.array .char), accessFlags := 24, slot := 3, constantValue := 0 }, { name := "DigitTens", type := (.array .byte), accessFlags := 24, slot := 4, constantValue := 0 }, { name := "DigitOnes", type := (.array .byte), accessFlags := 24, slot := 5, constantValue := 0 }, { name := "value", type := .int, accessFlags := 18, slot := 0, constantValue := 0 }, { name := "SIZE", type := .int, accessFlags := 25, slot := 6, constantValue := 0 }, { name := "BYTES", type := .int, accessFlags := 25, slot := 7, constantValue := 0 }, { name := "serialVersionUID", type := .long, accessFlags := 26, slot := 8, constantValue := 0 }]
  methods := #[k10m0, k10m1]
  instanceTypes := #[.int]
  staticTypes := #[.int, .int, (.object "java/lang/Class"), (.array .char), (.array .byte), (.array .byte), .int, .int, .long]
  resolved := Array.replicate 453 none
  statics := none }

def pool11 : Array CpInfo := pool [(2, .class_ 4), (1, u "java/lang/Object"), (0, u "<init>"), (0, u "()V"), (0, .class_ 8), (0, u "java/lang/Integer"), (7, .class_ 18), (1, u "java/lang/Integer$IntegerCache"), (0, u "$assertionsDisabled"), (0, u "Z"), (26, u "high"), (0, u "I"), (8, u "archivedCache"), (0, u "[Ljava/lang/Integer;"), (12, u "cache"), (0, u "low")] 27

def k11m0 : Method := { name := "<init>", desc := "()V", sig := { parameters := [], returnType := none }, accessFlags := 2, code := none }
/-- java/lang/Integer$IntegerCache -/
def k11 : Class := { plain "java/lang/Integer$IntegerCache" (some 0) with
  accessFlags := 48
  interfaces := #[]
  cf := some (fileOf pool11 16 #[.nestHost 7] #[{ accessFlags := 2, nameIndex := 5, descriptorIndex := 6, attributes := #[] }] 48 2 #[] #[{ accessFlags := 24, nameIndex := 72, descriptorIndex := 48, attributes := #[] }, { accessFlags := 24, nameIndex := 47, descriptorIndex := 48, attributes := #[] }, { accessFlags := 24, nameIndex := 71, descriptorIndex := 58, attributes := #[] }, { accessFlags := 8, nameIndex := 57, descriptorIndex := 58, attributes := #[] }, { accessFlags := 4120, nameIndex := 19, descriptorIndex := 20, attributes := #[] }])
  fields := #[{ name := "low", type := .int, accessFlags := 24, slot := 0, constantValue := 0 }, { name := "high", type := .int, accessFlags := 24, slot := 1, constantValue := 0 }, { name := "cache", type := (.array (.object "java/lang/Integer")), accessFlags := 24, slot := 2, constantValue := 0 }, { name := "archivedCache", type := (.array (.object "java/lang/Integer")), accessFlags := 8, slot := 3, constantValue := 0 }, { name := "$assertionsDisabled", type := .boolean, accessFlags := 4120, slot := 4, constantValue := 0 }]
  methods := #[k11m0]
  instanceTypes := #[]
  staticTypes := #[.int, .int, (.array (.object "java/lang/Integer")), (.array (.object "java/lang/Integer")), .boolean]
  resolved := Array.replicate 100 none
  statics := some 0 }

def pool12 : Array CpInfo := pool [(1, u "java/lang/Cloneable"), (0, .class_ 1), (0, u "java/lang/Object"), (0, .class_ 3)] 3

/-- java/lang/Cloneable -/
def k12 : Class := { plain "java/lang/Cloneable" (some 0) with
  accessFlags := 1537
  interfaces := #[]
  cf := some (fileOf pool12 2 #[] #[] 1537 4 #[] #[])
  fields := #[]
  methods := #[]
  instanceTypes := #[]
  staticTypes := #[]
  resolved := Array.replicate 8 none
  statics := none }

/-- the primitive byte -/
def k13 : Class := { plain "byte" none with kind := .primitive 'B', accessFlags := 0x411 }
/-- [B -/
def k14 : Class := { plain "[B" (some 0) with kind := .array 13 .byte, interfaces := #[12, 5], accessFlags := 1041 }

/-- the primitive int -/
def k15 : Class := { plain "int" none with kind := .primitive 'I', accessFlags := 0x411 }
/-- [I -/
def k16 : Class := { plain "[I" (some 0) with kind := .array 15 .int, interfaces := #[12, 5], accessFlags := 1041 }

/-- [Ljava/lang/Integer; -/
def k17 : Class := { plain "[Ljava/lang/Integer;" (some 0) with kind := .array 10 (.object "java/lang/Integer"), interfaces := #[12, 5], accessFlags := 1041 }

def heap : Heap := #[{ cls := 11, slots := #[.int 0, .int 127, .ref 1, .null, .int 0], vm := .statics 11 },
  { cls := 17, slots := #[.ref 2, .ref 3, .ref 4, .ref 5, .ref 6, .ref 7, .ref 8, .ref 9, .ref 10, .ref 11, .ref 12, .ref 13, .ref 14, .ref 15, .ref 16, .ref 17, .ref 18, .ref 19, .ref 20, .ref 21, .ref 22, .ref 23, .ref 24, .ref 25, .ref 26, .ref 27, .ref 28, .ref 29, .ref 30, .ref 31, .ref 32, .ref 33, .ref 34, .ref 35, .ref 36, .ref 37, .ref 38, .ref 39, .ref 40, .ref 41, .ref 42, .ref 43, .ref 44, .ref 45, .ref 46, .ref 47, .ref 48, .ref 49, .ref 50, .ref 51, .ref 52, .ref 53, .ref 54, .ref 55, .ref 56, .ref 57, .ref 58, .ref 59, .ref 60, .ref 61, .ref 62, .ref 63, .ref 64, .ref 65, .ref 66, .ref 67, .ref 68, .ref 69, .ref 70, .ref 71, .ref 72, .ref 73, .ref 74, .ref 75, .ref 76, .ref 77, .ref 78, .ref 79, .ref 80, .ref 81, .ref 82, .ref 83, .ref 84, .ref 85, .ref 86, .ref 87, .ref 88, .ref 89, .ref 90, .ref 91, .ref 92, .ref 93, .ref 94, .ref 95, .ref 96, .ref 97, .ref 98, .ref 99, .ref 100, .ref 101, .ref 102, .ref 103, .ref 104, .ref 105, .ref 106, .ref 107, .ref 108, .ref 109, .ref 110, .ref 111, .ref 112, .ref 113, .ref 114, .ref 115, .ref 116, .ref 117, .ref 118, .ref 119, .ref 120, .ref 121, .ref 122, .ref 123, .ref 124, .ref 125, .ref 126, .ref 127, .ref 128, .ref 129, .ref 130, .ref 131, .ref 132, .ref 133, .ref 134, .ref 135, .ref 136, .ref 137, .ref 138, .ref 139, .ref 140, .ref 141, .ref 142, .ref 143, .ref 144, .ref 145, .ref 146, .ref 147, .ref 148, .ref 149, .ref 150, .ref 151, .ref 152, .ref 153, .ref 154, .ref 155, .ref 156, .ref 157, .ref 158, .ref 159, .ref 160, .ref 161, .ref 162, .ref 163, .ref 164, .ref 165, .ref 166, .ref 167, .ref 168, .ref 169, .ref 170, .ref 171, .ref 172, .ref 173, .ref 174, .ref 175, .ref 176, .ref 177, .ref 178, .ref 179, .ref 180, .ref 181, .ref 182, .ref 183, .ref 184, .ref 185, .ref 186, .ref 187, .ref 188, .ref 189, .ref 190, .ref 191, .ref 192, .ref 193, .ref 194, .ref 195, .ref 196, .ref 197, .ref 198, .ref 199, .ref 200, .ref 201, .ref 202, .ref 203, .ref 204, .ref 205, .ref 206, .ref 207, .ref 208, .ref 209, .ref 210, .ref 211, .ref 212, .ref 213, .ref 214, .ref 215, .ref 216, .ref 217, .ref 218, .ref 219, .ref 220, .ref 221, .ref 222, .ref 223, .ref 224, .ref 225, .ref 226, .ref 227, .ref 228, .ref 229, .ref 230, .ref 231, .ref 232, .ref 233, .ref 234, .ref 235, .ref 236, .ref 237, .ref 238, .ref 239, .ref 240, .ref 241, .ref 242, .ref 243, .ref 244, .ref 245, .ref 246, .ref 247, .ref 248, .ref 249, .ref 250, .ref 251, .ref 252, .ref 253, .ref 254, .ref 255, .ref 256, .ref 257], vm := .none },
  { cls := 10, slots := #[.int (-128)], vm := .none },
  { cls := 10, slots := #[.int (-127)], vm := .none },
  { cls := 10, slots := #[.int (-126)], vm := .none },
  { cls := 10, slots := #[.int (-125)], vm := .none },
  { cls := 10, slots := #[.int (-124)], vm := .none },
  { cls := 10, slots := #[.int (-123)], vm := .none },
  { cls := 10, slots := #[.int (-122)], vm := .none },
  { cls := 10, slots := #[.int (-121)], vm := .none },
  { cls := 10, slots := #[.int (-120)], vm := .none },
  { cls := 10, slots := #[.int (-119)], vm := .none },
  { cls := 10, slots := #[.int (-118)], vm := .none },
  { cls := 10, slots := #[.int (-117)], vm := .none },
  { cls := 10, slots := #[.int (-116)], vm := .none },
  { cls := 10, slots := #[.int (-115)], vm := .none },
  { cls := 10, slots := #[.int (-114)], vm := .none },
  { cls := 10, slots := #[.int (-113)], vm := .none },
  { cls := 10, slots := #[.int (-112)], vm := .none },
  { cls := 10, slots := #[.int (-111)], vm := .none },
  { cls := 10, slots := #[.int (-110)], vm := .none },
  { cls := 10, slots := #[.int (-109)], vm := .none },
  { cls := 10, slots := #[.int (-108)], vm := .none },
  { cls := 10, slots := #[.int (-107)], vm := .none },
  { cls := 10, slots := #[.int (-106)], vm := .none },
  { cls := 10, slots := #[.int (-105)], vm := .none },
  { cls := 10, slots := #[.int (-104)], vm := .none },
  { cls := 10, slots := #[.int (-103)], vm := .none },
  { cls := 10, slots := #[.int (-102)], vm := .none },
  { cls := 10, slots := #[.int (-101)], vm := .none },
  { cls := 10, slots := #[.int (-100)], vm := .none },
  { cls := 10, slots := #[.int (-99)], vm := .none },
  { cls := 10, slots := #[.int (-98)], vm := .none },
  { cls := 10, slots := #[.int (-97)], vm := .none },
  { cls := 10, slots := #[.int (-96)], vm := .none },
  { cls := 10, slots := #[.int (-95)], vm := .none },
  { cls := 10, slots := #[.int (-94)], vm := .none },
  { cls := 10, slots := #[.int (-93)], vm := .none },
  { cls := 10, slots := #[.int (-92)], vm := .none },
  { cls := 10, slots := #[.int (-91)], vm := .none },
  { cls := 10, slots := #[.int (-90)], vm := .none },
  { cls := 10, slots := #[.int (-89)], vm := .none },
  { cls := 10, slots := #[.int (-88)], vm := .none },
  { cls := 10, slots := #[.int (-87)], vm := .none },
  { cls := 10, slots := #[.int (-86)], vm := .none },
  { cls := 10, slots := #[.int (-85)], vm := .none },
  { cls := 10, slots := #[.int (-84)], vm := .none },
  { cls := 10, slots := #[.int (-83)], vm := .none },
  { cls := 10, slots := #[.int (-82)], vm := .none },
  { cls := 10, slots := #[.int (-81)], vm := .none },
  { cls := 10, slots := #[.int (-80)], vm := .none },
  { cls := 10, slots := #[.int (-79)], vm := .none },
  { cls := 10, slots := #[.int (-78)], vm := .none },
  { cls := 10, slots := #[.int (-77)], vm := .none },
  { cls := 10, slots := #[.int (-76)], vm := .none },
  { cls := 10, slots := #[.int (-75)], vm := .none },
  { cls := 10, slots := #[.int (-74)], vm := .none },
  { cls := 10, slots := #[.int (-73)], vm := .none },
  { cls := 10, slots := #[.int (-72)], vm := .none },
  { cls := 10, slots := #[.int (-71)], vm := .none },
  { cls := 10, slots := #[.int (-70)], vm := .none },
  { cls := 10, slots := #[.int (-69)], vm := .none },
  { cls := 10, slots := #[.int (-68)], vm := .none },
  { cls := 10, slots := #[.int (-67)], vm := .none },
  { cls := 10, slots := #[.int (-66)], vm := .none },
  { cls := 10, slots := #[.int (-65)], vm := .none },
  { cls := 10, slots := #[.int (-64)], vm := .none },
  { cls := 10, slots := #[.int (-63)], vm := .none },
  { cls := 10, slots := #[.int (-62)], vm := .none },
  { cls := 10, slots := #[.int (-61)], vm := .none },
  { cls := 10, slots := #[.int (-60)], vm := .none },
  { cls := 10, slots := #[.int (-59)], vm := .none },
  { cls := 10, slots := #[.int (-58)], vm := .none },
  { cls := 10, slots := #[.int (-57)], vm := .none },
  { cls := 10, slots := #[.int (-56)], vm := .none },
  { cls := 10, slots := #[.int (-55)], vm := .none },
  { cls := 10, slots := #[.int (-54)], vm := .none },
  { cls := 10, slots := #[.int (-53)], vm := .none },
  { cls := 10, slots := #[.int (-52)], vm := .none },
  { cls := 10, slots := #[.int (-51)], vm := .none },
  { cls := 10, slots := #[.int (-50)], vm := .none },
  { cls := 10, slots := #[.int (-49)], vm := .none },
  { cls := 10, slots := #[.int (-48)], vm := .none },
  { cls := 10, slots := #[.int (-47)], vm := .none },
  { cls := 10, slots := #[.int (-46)], vm := .none },
  { cls := 10, slots := #[.int (-45)], vm := .none },
  { cls := 10, slots := #[.int (-44)], vm := .none },
  { cls := 10, slots := #[.int (-43)], vm := .none },
  { cls := 10, slots := #[.int (-42)], vm := .none },
  { cls := 10, slots := #[.int (-41)], vm := .none },
  { cls := 10, slots := #[.int (-40)], vm := .none },
  { cls := 10, slots := #[.int (-39)], vm := .none },
  { cls := 10, slots := #[.int (-38)], vm := .none },
  { cls := 10, slots := #[.int (-37)], vm := .none },
  { cls := 10, slots := #[.int (-36)], vm := .none },
  { cls := 10, slots := #[.int (-35)], vm := .none },
  { cls := 10, slots := #[.int (-34)], vm := .none },
  { cls := 10, slots := #[.int (-33)], vm := .none },
  { cls := 10, slots := #[.int (-32)], vm := .none },
  { cls := 10, slots := #[.int (-31)], vm := .none },
  { cls := 10, slots := #[.int (-30)], vm := .none },
  { cls := 10, slots := #[.int (-29)], vm := .none },
  { cls := 10, slots := #[.int (-28)], vm := .none },
  { cls := 10, slots := #[.int (-27)], vm := .none },
  { cls := 10, slots := #[.int (-26)], vm := .none },
  { cls := 10, slots := #[.int (-25)], vm := .none },
  { cls := 10, slots := #[.int (-24)], vm := .none },
  { cls := 10, slots := #[.int (-23)], vm := .none },
  { cls := 10, slots := #[.int (-22)], vm := .none },
  { cls := 10, slots := #[.int (-21)], vm := .none },
  { cls := 10, slots := #[.int (-20)], vm := .none },
  { cls := 10, slots := #[.int (-19)], vm := .none },
  { cls := 10, slots := #[.int (-18)], vm := .none },
  { cls := 10, slots := #[.int (-17)], vm := .none },
  { cls := 10, slots := #[.int (-16)], vm := .none },
  { cls := 10, slots := #[.int (-15)], vm := .none },
  { cls := 10, slots := #[.int (-14)], vm := .none },
  { cls := 10, slots := #[.int (-13)], vm := .none },
  { cls := 10, slots := #[.int (-12)], vm := .none },
  { cls := 10, slots := #[.int (-11)], vm := .none },
  { cls := 10, slots := #[.int (-10)], vm := .none },
  { cls := 10, slots := #[.int (-9)], vm := .none },
  { cls := 10, slots := #[.int (-8)], vm := .none },
  { cls := 10, slots := #[.int (-7)], vm := .none },
  { cls := 10, slots := #[.int (-6)], vm := .none },
  { cls := 10, slots := #[.int (-5)], vm := .none },
  { cls := 10, slots := #[.int (-4)], vm := .none },
  { cls := 10, slots := #[.int (-3)], vm := .none },
  { cls := 10, slots := #[.int (-2)], vm := .none },
  { cls := 10, slots := #[.int (-1)], vm := .none },
  { cls := 10, slots := #[.int (0)], vm := .none },
  { cls := 10, slots := #[.int (1)], vm := .none },
  { cls := 10, slots := #[.int (2)], vm := .none },
  { cls := 10, slots := #[.int (3)], vm := .none },
  { cls := 10, slots := #[.int (4)], vm := .none },
  { cls := 10, slots := #[.int (5)], vm := .none },
  { cls := 10, slots := #[.int (6)], vm := .none },
  { cls := 10, slots := #[.int (7)], vm := .none },
  { cls := 10, slots := #[.int (8)], vm := .none },
  { cls := 10, slots := #[.int (9)], vm := .none },
  { cls := 10, slots := #[.int (10)], vm := .none },
  { cls := 10, slots := #[.int (11)], vm := .none },
  { cls := 10, slots := #[.int (12)], vm := .none },
  { cls := 10, slots := #[.int (13)], vm := .none },
  { cls := 10, slots := #[.int (14)], vm := .none },
  { cls := 10, slots := #[.int (15)], vm := .none },
  { cls := 10, slots := #[.int (16)], vm := .none },
  { cls := 10, slots := #[.int (17)], vm := .none },
  { cls := 10, slots := #[.int (18)], vm := .none },
  { cls := 10, slots := #[.int (19)], vm := .none },
  { cls := 10, slots := #[.int (20)], vm := .none },
  { cls := 10, slots := #[.int (21)], vm := .none },
  { cls := 10, slots := #[.int (22)], vm := .none },
  { cls := 10, slots := #[.int (23)], vm := .none },
  { cls := 10, slots := #[.int (24)], vm := .none },
  { cls := 10, slots := #[.int (25)], vm := .none },
  { cls := 10, slots := #[.int (26)], vm := .none },
  { cls := 10, slots := #[.int (27)], vm := .none },
  { cls := 10, slots := #[.int (28)], vm := .none },
  { cls := 10, slots := #[.int (29)], vm := .none },
  { cls := 10, slots := #[.int (30)], vm := .none },
  { cls := 10, slots := #[.int (31)], vm := .none },
  { cls := 10, slots := #[.int (32)], vm := .none },
  { cls := 10, slots := #[.int (33)], vm := .none },
  { cls := 10, slots := #[.int (34)], vm := .none },
  { cls := 10, slots := #[.int (35)], vm := .none },
  { cls := 10, slots := #[.int (36)], vm := .none },
  { cls := 10, slots := #[.int (37)], vm := .none },
  { cls := 10, slots := #[.int (38)], vm := .none },
  { cls := 10, slots := #[.int (39)], vm := .none },
  { cls := 10, slots := #[.int (40)], vm := .none },
  { cls := 10, slots := #[.int (41)], vm := .none },
  { cls := 10, slots := #[.int (42)], vm := .none },
  { cls := 10, slots := #[.int (43)], vm := .none },
  { cls := 10, slots := #[.int (44)], vm := .none },
  { cls := 10, slots := #[.int (45)], vm := .none },
  { cls := 10, slots := #[.int (46)], vm := .none },
  { cls := 10, slots := #[.int (47)], vm := .none },
  { cls := 10, slots := #[.int (48)], vm := .none },
  { cls := 10, slots := #[.int (49)], vm := .none },
  { cls := 10, slots := #[.int (50)], vm := .none },
  { cls := 10, slots := #[.int (51)], vm := .none },
  { cls := 10, slots := #[.int (52)], vm := .none },
  { cls := 10, slots := #[.int (53)], vm := .none },
  { cls := 10, slots := #[.int (54)], vm := .none },
  { cls := 10, slots := #[.int (55)], vm := .none },
  { cls := 10, slots := #[.int (56)], vm := .none },
  { cls := 10, slots := #[.int (57)], vm := .none },
  { cls := 10, slots := #[.int (58)], vm := .none },
  { cls := 10, slots := #[.int (59)], vm := .none },
  { cls := 10, slots := #[.int (60)], vm := .none },
  { cls := 10, slots := #[.int (61)], vm := .none },
  { cls := 10, slots := #[.int (62)], vm := .none },
  { cls := 10, slots := #[.int (63)], vm := .none },
  { cls := 10, slots := #[.int (64)], vm := .none },
  { cls := 10, slots := #[.int (65)], vm := .none },
  { cls := 10, slots := #[.int (66)], vm := .none },
  { cls := 10, slots := #[.int (67)], vm := .none },
  { cls := 10, slots := #[.int (68)], vm := .none },
  { cls := 10, slots := #[.int (69)], vm := .none },
  { cls := 10, slots := #[.int (70)], vm := .none },
  { cls := 10, slots := #[.int (71)], vm := .none },
  { cls := 10, slots := #[.int (72)], vm := .none },
  { cls := 10, slots := #[.int (73)], vm := .none },
  { cls := 10, slots := #[.int (74)], vm := .none },
  { cls := 10, slots := #[.int (75)], vm := .none },
  { cls := 10, slots := #[.int (76)], vm := .none },
  { cls := 10, slots := #[.int (77)], vm := .none },
  { cls := 10, slots := #[.int (78)], vm := .none },
  { cls := 10, slots := #[.int (79)], vm := .none },
  { cls := 10, slots := #[.int (80)], vm := .none },
  { cls := 10, slots := #[.int (81)], vm := .none },
  { cls := 10, slots := #[.int (82)], vm := .none },
  { cls := 10, slots := #[.int (83)], vm := .none },
  { cls := 10, slots := #[.int (84)], vm := .none },
  { cls := 10, slots := #[.int (85)], vm := .none },
  { cls := 10, slots := #[.int (86)], vm := .none },
  { cls := 10, slots := #[.int (87)], vm := .none },
  { cls := 10, slots := #[.int (88)], vm := .none },
  { cls := 10, slots := #[.int (89)], vm := .none },
  { cls := 10, slots := #[.int (90)], vm := .none },
  { cls := 10, slots := #[.int (91)], vm := .none },
  { cls := 10, slots := #[.int (92)], vm := .none },
  { cls := 10, slots := #[.int (93)], vm := .none },
  { cls := 10, slots := #[.int (94)], vm := .none },
  { cls := 10, slots := #[.int (95)], vm := .none },
  { cls := 10, slots := #[.int (96)], vm := .none },
  { cls := 10, slots := #[.int (97)], vm := .none },
  { cls := 10, slots := #[.int (98)], vm := .none },
  { cls := 10, slots := #[.int (99)], vm := .none },
  { cls := 10, slots := #[.int (100)], vm := .none },
  { cls := 10, slots := #[.int (101)], vm := .none },
  { cls := 10, slots := #[.int (102)], vm := .none },
  { cls := 10, slots := #[.int (103)], vm := .none },
  { cls := 10, slots := #[.int (104)], vm := .none },
  { cls := 10, slots := #[.int (105)], vm := .none },
  { cls := 10, slots := #[.int (106)], vm := .none },
  { cls := 10, slots := #[.int (107)], vm := .none },
  { cls := 10, slots := #[.int (108)], vm := .none },
  { cls := 10, slots := #[.int (109)], vm := .none },
  { cls := 10, slots := #[.int (110)], vm := .none },
  { cls := 10, slots := #[.int (111)], vm := .none },
  { cls := 10, slots := #[.int (112)], vm := .none },
  { cls := 10, slots := #[.int (113)], vm := .none },
  { cls := 10, slots := #[.int (114)], vm := .none },
  { cls := 10, slots := #[.int (115)], vm := .none },
  { cls := 10, slots := #[.int (116)], vm := .none },
  { cls := 10, slots := #[.int (117)], vm := .none },
  { cls := 10, slots := #[.int (118)], vm := .none },
  { cls := 10, slots := #[.int (119)], vm := .none },
  { cls := 10, slots := #[.int (120)], vm := .none },
  { cls := 10, slots := #[.int (121)], vm := .none },
  { cls := 10, slots := #[.int (122)], vm := .none },
  { cls := 10, slots := #[.int (123)], vm := .none },
  { cls := 10, slots := #[.int (124)], vm := .none },
  { cls := 10, slots := #[.int (125)], vm := .none },
  { cls := 10, slots := #[.int (126)], vm := .none },
  { cls := 10, slots := #[.int (127)], vm := .none }]
def classes : Array Class := #[k0, k1, k2, k3, k4, k5, k6, k7, k8, k9, k10, k11, k12, k13, k14, k15, k16, k17]
def interned : List (Array UInt16 × Addr) := []
def slotsUsed : Nat := 517
def theMethod : MethodId := ⟨1, 1⟩
def args0 : Array Value := #[.int 5, .long 7, .long 9, .int 5, .long 7, .long 9]
def aboutOver (below : List Frame) : State where
  vm := { classes := classes, interned := interned.toArray }
  heap := heap
  slotsUsed := slotsUsed
  threads := #[{ frames := .invoking theMethod args0 :: below }]
def below0 : List Frame := [.native { method := ⟨0, 0⟩, args := #[] }]
def about1 : State := aboutOver below0
def p0 : Program := .bare "" "" ""
def e0 : Env := launch0.env 0 0 0
theorem w_frames : about1.frames = Frame.invoking theMethod args0 :: below0 := rfl
set_option maxRecDepth 65536 in
theorem w_args : argsFit about1.vm theMethod args0 = true := by decide +kernel
set_option maxRecDepth 65536 in
theorem w_heap : heapFits about1 = true := by decide +kernel
set_option maxRecDepth 65536 in
theorem w_runnable : about1.curStatus? = some .runnable := by decide +kernel
set_option maxRecDepth 65536 in
theorem w_alone : about1.alone = true := by decide +kernel
set_option maxRecDepth 65536 in
theorem w_named : about1.methodNamed? x = some theMethod := by decide +kernel
set_option maxRecDepth 65536 in
theorem w_hears : about1.hears theMethod below0 = true := by decide +kernel
set_option maxRecDepth 65536 in
theorem w_ripe : about1.ripe theMethod args0 below0 = true := by decide +kernel
theorem w_running : about1.status = .running := rfl
set_option maxRecDepth 65536 in
theorem w_room : about1.hasRoom e0.platform room_1 = true :=
  launch0.hasRoom_least _ room_1 (by decide +kernel) (by decide +kernel) (by decide +kernel) (by decide +kernel) (by decide +kernel) (by decide +kernel)
theorem allAtoms_all (ts : List Jvm.Cond) (a : Array Jvm.Value) (st : Jvm.State) : (allAtoms ts).before a st = ts.all (fun c => c.before a st) := by
  induction ts with
  | nil => rfl
  | cons c t ih =>
    show (Jvm.Cond.and c (allAtoms t)).before a st = _
    rw [Jvm.Cond.before_and, ih, List.all_cons]
def words1 : List Jvm.Cond := Jvm.Cond.code x code maxLocals ret :: tables_1
/-- a 'code' word, met by the world's own term for the bytes: nothing is compared byte by byte -/
theorem code_word {y : MethodName} {bytes : ByteArray} {mx : Nat} {rt : Option FieldType} {a : Array Value} {s : State} {m : MethodId} {meth : Method} {c : Code} (h1 : s.methodNamed? y = some m) (h2 : s.vm.method? m = some meth) (h3 : meth.code = some c) (h4 : c.code = bytes)
    (h5 : (c.maxLocals == mx && c.exceptionTable.isEmpty && decide (c.maxStack ≤ mostOperands) && decide (meth.sig.returnType = rt) && !meth.locks && decide (parseMethodDescriptor y.desc = some meth.sig)) = true) : (Jvm.Cond.code y bytes mx rt).before a s = true := by
  simp only [Bool.and_eq_true, beq_iff_eq, Bool.not_eq_true', decide_eq_true_eq] at h5
  obtain ⟨⟨⟨⟨⟨g1, g2⟩, g3⟩, g4⟩, g5⟩, g6⟩ := h5
  simp [Cond.before, Cond.holds, Cond.value, h1, h2, h3, h4, g1, g2, g3, g4, g5, g6]
def isCode : Jvm.Cond → Bool
  | .code _ _ _ _ => true
  | _ => false
theorem all_split {L : List Jvm.Cond} {P : Jvm.Cond → Bool} (h1 : L.all (fun c => isCode c || P c) = true) (h2 : ∀ c ∈ L.filter isCode, P c = true) : L.all P = true := by
  refine List.all_eq_true.mpr fun c hc => ?_
  have h := List.all_eq_true.mp h1 c hc
  rcases Bool.eq_false_or_eq_true (isCode c) with hi | hi
  · exact h2 c (List.mem_filter.mpr ⟨hc, hi⟩)
  · simpa [hi] using h
set_option maxRecDepth 65536 in
theorem w_c0 : (Jvm.Cond.code x code maxLocals ret).before args0 about1 = true := code_word (m := ⟨1, 1⟩) (meth := k1m1) (c := k1c1) (by decide +kernel) rfl rfl rfl (by decide +kernel)
set_option maxRecDepth 65536 in
theorem w_c1 : (Jvm.Cond.code ({ cls := "java/lang/Math", name := "max", desc := "(II)I" } : Jvm.MethodName) jdk_29_method_65_code (2 : Nat) (Option.some Jvm.ClassFile.FieldType.int)).before args0 about1 = true := code_word (m := ⟨2, 1⟩) (meth := k2m1) (c := k2c1) (by decide +kernel) rfl rfl rfl (by decide +kernel)
set_option maxRecDepth 65536 in
theorem w_c2 : (Jvm.Cond.code ({ cls := "java/lang/Math", name := "max", desc := "(JJ)J" } : Jvm.MethodName) jdk_29_method_66_code (4 : Nat) (Option.some Jvm.ClassFile.FieldType.long)).before args0 about1 = true := code_word (m := ⟨2, 2⟩) (meth := k2m2) (c := k2c2) (by decide +kernel) rfl rfl rfl (by decide +kernel)
set_option maxRecDepth 65536 in
theorem w_c3 : (Jvm.Cond.code ({ cls := "com/example/causeline/causeline/core/MessageId", name := "<init>", desc := "(IJJ)V" } : Jvm.MethodName) prog_51_method_1_code (6 : Nat) (Option.none : Option Jvm.ClassFile.FieldType)).before args0 about1 = true := code_word (m := ⟨4, 0⟩) (meth := k4m0) (c := k4c0) (by decide +kernel) rfl rfl rfl (by decide +kernel)
set_option maxRecDepth 65536 in
theorem w_c4 : (Jvm.Cond.code ({ cls := "java/lang/Record", name := "<init>", desc := "()V" } : Jvm.MethodName) jdk_30_method_1_code (1 : Nat) (Option.none : Option Jvm.ClassFile.FieldType)).before args0 about1 = true := code_word (m := ⟨3, 0⟩) (meth := k3m0) (c := k3c0) (by decide +kernel) rfl rfl rfl (by decide +kernel)
set_option maxRecDepth 65536 in
theorem w_c5 : (Jvm.Cond.code ({ cls := "java/lang/Object", name := "<init>", desc := "()V" } : Jvm.MethodName) object_method_1_code (1 : Nat) (Option.none : Option Jvm.ClassFile.FieldType)).before args0 about1 = true := code_word (m := ⟨0, 0⟩) (meth := k0m0) (c := k0c0) (by decide +kernel) rfl rfl rfl (by decide +kernel)
set_option maxRecDepth 65536 in
theorem w_c6 : (Jvm.Cond.code ({ cls := "com/example/causeline/causeline/core/MessageId", name := "equals", desc := "(Ljava/lang/Object;)Z" } : Jvm.MethodName) prog_51_method_5_code (3 : Nat) (Option.some Jvm.ClassFile.FieldType.boolean)).before args0 about1 = true := code_word (m := ⟨4, 1⟩) (meth := k4m1) (c := k4c1) (by decide +kernel) rfl rfl rfl (by decide +kernel)
set_option maxRecDepth 65536 in
theorem w_c7 : (Jvm.Cond.code ({ cls := "java/lang/Integer", name := "valueOf", desc := "(I)Ljava/lang/Integer;" } : Jvm.MethodName) jdk_33_method_22_code (1 : Nat) (Option.some (Jvm.ClassFile.FieldType.object "java/lang/Integer"))).before args0 about1 = true := code_word (m := ⟨10, 0⟩) (meth := k10m0) (c := k10c0) (by decide +kernel) rfl rfl rfl (by decide +kernel)
set_option maxRecDepth 65536 in
theorem w_c8 : (Jvm.Cond.code ({ cls := "java/lang/Integer", name := "<init>", desc := "(I)V" } : Jvm.MethodName) jdk_33_method_23_code (2 : Nat) (Option.none : Option Jvm.ClassFile.FieldType)).before args0 about1 = true := code_word (m := ⟨10, 1⟩) (meth := k10m1) (c := k10c1) (by decide +kernel) rfl rfl rfl (by decide +kernel)
set_option maxRecDepth 65536 in
theorem w_c9 : (Jvm.Cond.code ({ cls := "java/lang/Number", name := "<init>", desc := "()V" } : Jvm.MethodName) jdk_18_method_1_code (1 : Nat) (Option.none : Option Jvm.ClassFile.FieldType)).before args0 about1 = true := code_word (m := ⟨6, 0⟩) (meth := k6m0) (c := k6c0) (by decide +kernel) rfl rfl rfl (by decide +kernel)
def codes1 : List Jvm.Cond := [Jvm.Cond.code x code maxLocals ret, Jvm.Cond.code ({ cls := "java/lang/Math", name := "max", desc := "(II)I" } : Jvm.MethodName) jdk_29_method_65_code (2 : Nat) (Option.some Jvm.ClassFile.FieldType.int), Jvm.Cond.code ({ cls := "java/lang/Math", name := "max", desc := "(JJ)J" } : Jvm.MethodName) jdk_29_method_66_code (4 : Nat) (Option.some Jvm.ClassFile.FieldType.long), Jvm.Cond.code ({ cls := "com/example/causeline/causeline/core/MessageId", name := "<init>", desc := "(IJJ)V" } : Jvm.MethodName) prog_51_method_1_code (6 : Nat) (Option.none : Option Jvm.ClassFile.FieldType), Jvm.Cond.code ({ cls := "java/lang/Record", name := "<init>", desc := "()V" } : Jvm.MethodName) jdk_30_method_1_code (1 : Nat) (Option.none : Option Jvm.ClassFile.FieldType), Jvm.Cond.code ({ cls := "java/lang/Object", name := "<init>", desc := "()V" } : Jvm.MethodName) object_method_1_code (1 : Nat) (Option.none : Option Jvm.ClassFile.FieldType), Jvm.Cond.code ({ cls := "com/example/causeline/causeline/core/MessageId", name := "equals", desc := "(Ljava/lang/Object;)Z" } : Jvm.MethodName) prog_51_method_5_code (3 : Nat) (Option.some Jvm.ClassFile.FieldType.boolean), Jvm.Cond.code ({ cls := "java/lang/Integer", name := "valueOf", desc := "(I)Ljava/lang/Integer;" } : Jvm.MethodName) jdk_33_method_22_code (1 : Nat) (Option.some (Jvm.ClassFile.FieldType.object "java/lang/Integer")), Jvm.Cond.code ({ cls := "java/lang/Integer", name := "<init>", desc := "(I)V" } : Jvm.MethodName) jdk_33_method_23_code (2 : Nat) (Option.none : Option Jvm.ClassFile.FieldType), Jvm.Cond.code ({ cls := "java/lang/Number", name := "<init>", desc := "()V" } : Jvm.MethodName) jdk_18_method_1_code (1 : Nat) (Option.none : Option Jvm.ClassFile.FieldType)]
set_option maxRecDepth 65536 in
theorem codes_eq : words1.filter isCode = codes1 := rfl
theorem w_codes : ∀ c ∈ words1.filter isCode, c.before args0 about1 = true := by
  rw [codes_eq]
  intro c hc
  simp only [codes1, List.mem_cons, List.not_mem_nil, or_false] at hc
  rcases hc with rfl | rfl | rfl | rfl | rfl | rfl | rfl | rfl | rfl | rfl
  · exact w_c0
  · exact w_c1
  · exact w_c2
  · exact w_c3
  · exact w_c4
  · exact w_c5
  · exact w_c6
  · exact w_c7
  · exact w_c8
  · exact w_c9
set_option maxRecDepth 65536 in
theorem w_t1 : (words1.take 24).all (fun c => isCode c || c.before args0 about1) = true := by decide +kernel
set_option maxRecDepth 65536 in
theorem w_t2 : ((words1.drop 24).take 24).all (fun c => isCode c || c.before args0 about1) = true := by decide +kernel
set_option maxRecDepth 65536 in
theorem w_t3 : ((words1.drop 24).drop 24).all (fun c => isCode c || c.before args0 about1) = true := by decide +kernel
theorem w_tables : (allAtoms (Jvm.Cond.code x code maxLocals ret :: tables_1)).before args0 about1 = true := by
  rw [allAtoms_all]
  show words1.all (fun c => c.before args0 about1) = true
  refine all_split ?_ w_codes
  rw [← List.take_append_drop 24 words1, List.all_append, w_t1, ← List.take_append_drop 24 (words1.drop 24), List.all_append, w_t2, w_t3]
  rfl
set_option maxRecDepth 65536 in
theorem w_rest : rest_1_c.before args0 about1 = true := by decide +kernel
set_option maxRecDepth 65536 in
theorem w_case : (Jvm.Cond.and given_1 narrow_1).before args0 about1 = true := by decide +kernel
theorem w_applies : (headSpec (Jvm.Cond.code x code maxLocals ret :: tables_1) room_1).applies x e0.platform about1 = true :=
  (Spec.applies_iff w_frames).mpr ⟨w_running, w_runnable, w_alone, w_named, w_hears, w_ripe, w_room, w_tables⟩
theorem atStart : AtStart classFile x code maxLocals ret World_1 tables_1 room_1 Calls_1 rest_1 Pre_1 launch0 p0 e0 about1 theMethod args0 below0 :=
  ⟨lists_1, trivial, launch0.admits_env _ _ _, launch0.least_env, fairChoices_fair.cas, fairChoices_fair.clock, w_frames, w_args, w_heap, w_applies, trivial, w_rest, w_case⟩
end start1
theorem witness_1 : WitnessClaimed_1 := ⟨start1.p0, start1.e0, start1.about1, start1.theMethod, start1.args0, start1.below0, start1.atStart⟩
end Jvm.Pilot.@@N@@
