import JvmDerived
import JvmDerived.Pilot.@@N@@Statement
import JvmDerived.Pilot.@@N@@Code
set_option linter.unusedVariables false
set_option linter.unusedSimpArgs false
namespace Jvm.Pilot.@@N@@
open Jvm Jvm.ClassFile Sem Op Lib Jvm.Free Jvm.Stand Jvm.LawKit Jvm.RoadKit Bundle Jvm.Pilot.@@N@@.Jvm.D
theorem own_ord {args : Array Value} {s : State} {t : Term} {C n d : String} {a : Addr} {k : Int32} (et : t.eval args s none [] s = some (.ref a)) (h : (Cond.eq (.field t C n d) (.int k)).value args s none s [] = some true) : s.fieldOf? a C n d = some (.int k) := by
  have e := fld_at (C := C) (n := n) (dd := d) et
  obtain ⟨x, y, h1, h2, k1, k2⟩ := cmp_v (Or.inl h)
  have h2' : (some (.int k) : Option Value) = some y := h2
  obtain rfl := Option.some.inj h2'
  obtain ⟨z, rfl⟩ := k2
  have hz : z = k := by simpa [Cond.value, h1, h2] using h
  subst hz
  rw [← e]; exact h1
theorem own_ord_ne {s : State} {C n d : String} {a b : Addr} {j k : Int32} (h1 : s.fieldOf? a C n d = some (.int j)) (h2 : s.fieldOf? b C n d = some (.int k)) (q : j ≠ k) : ¬ a = b := fun e => by
  subst e
  exact q (Value.int.inj (Option.some.inj (h1.symm.trans h2)))
theorem own_sta_keep {Z : State} {h h' : Heap} {C n d : String} {v : Value} (F : Sta Z h C n d v) (K : Keep h h' []) : Sta Z h' C n d v := by
  obtain ⟨cf, i, k, f, st, cell, h1, h2, h3, h4, h5, r⟩ := F
  exact ⟨cf, i, k, f, st, cell, h1, h2, h3, h4, K.2.1 _ _ h5 nin0, r⟩
theorem d1_0 : decode prog_8_method_4_code 0 = .ok (.aload_n 0, 1) := by decide +kernel
theorem d1_1 : decode prog_8_method_4_code 1 = .ok (.getstatic 25, 3) := by decide +kernel
theorem d1_4 : decode prog_8_method_4_code 4 = .ok (.if_acmp .eq 45, 3) := by decide +kernel
theorem d1_49 : decode prog_8_method_4_code 49 = .ok (.iconst 1, 1) := by decide +kernel
theorem d1_50 : decode prog_8_method_4_code 50 = .ok (.goto 4, 3) := by decide +kernel
theorem d1_54 : decode prog_8_method_4_code 54 = .ok (.ireturn, 1) := by decide +kernel
theorem d1_7 : decode prog_8_method_4_code 7 = .ok (.aload_n 0, 1) := by decide +kernel
theorem d1_8 : decode prog_8_method_4_code 8 = .ok (.getstatic 28, 3) := by decide +kernel
theorem d1_11 : decode prog_8_method_4_code 11 = .ok (.if_acmp .eq 38, 3) := by decide +kernel
theorem d1_14 : decode prog_8_method_4_code 14 = .ok (.aload_n 0, 1) := by decide +kernel
theorem d1_15 : decode prog_8_method_4_code 15 = .ok (.getstatic 31, 3) := by decide +kernel
theorem d1_18 : decode prog_8_method_4_code 18 = .ok (.if_acmp .eq 31, 3) := by decide +kernel
theorem d1_21 : decode prog_8_method_4_code 21 = .ok (.aload_n 0, 1) := by decide +kernel
theorem d1_22 : decode prog_8_method_4_code 22 = .ok (.getstatic 43, 3) := by decide +kernel
theorem d1_25 : decode prog_8_method_4_code 25 = .ok (.if_acmp .eq 24, 3) := by decide +kernel
theorem d1_28 : decode prog_8_method_4_code 28 = .ok (.aload_n 0, 1) := by decide +kernel
theorem d1_29 : decode prog_8_method_4_code 29 = .ok (.getstatic 46, 3) := by decide +kernel
theorem d1_32 : decode prog_8_method_4_code 32 = .ok (.if_acmp .eq 17, 3) := by decide +kernel
theorem d1_35 : decode prog_8_method_4_code 35 = .ok (.aload_n 0, 1) := by decide +kernel
theorem d1_36 : decode prog_8_method_4_code 36 = .ok (.getstatic 49, 3) := by decide +kernel
theorem d1_39 : decode prog_8_method_4_code 39 = .ok (.if_acmp .eq 10, 3) := by decide +kernel
theorem d1_42 : decode prog_8_method_4_code 42 = .ok (.aload_n 0, 1) := by decide +kernel
theorem d1_43 : decode prog_8_method_4_code 43 = .ok (.getstatic 52, 3) := by decide +kernel
theorem d1_46 : decode prog_8_method_4_code 46 = .ok (.if_acmp .ne 7, 3) := by decide +kernel
theorem d1_53 : decode prog_8_method_4_code 53 = .ok (.iconst 0, 1) := by decide +kernel
theorem pn_25 : plainName "com/example/hornbill/hornbill/metrics/StoreOperation" = true := by first | (simp [plainName, overriddenIn]; done) | decide +kernel
theorem ef_rm1 (m : MethodId) (x0 : Addr) : entryFrame m #[(.ref x0)] 1 = mkF m 0 #[.val (.ref x0)] [] := by first | (simp [entryFrame, mkF, argsToLocals, Value.category]; done) | rfl
def own_reads (va : Addr) (a_SHOW : Addr) (a_LIST : Addr) (a_AWAIT_CHANGE : Addr) (a_SHOW_CLAIM : Addr) (a_OUTSTANDING : Addr) (a_REQUEST : Addr) (a_LIST_CLAIMS : Addr) : Int32 := (if va = a_SHOW then (1 : Int32) else (if va = a_LIST then (1 : Int32) else (if va = a_AWAIT_CHANGE then (1 : Int32) else (if va = a_SHOW_CLAIM then (1 : Int32) else (if va = a_OUTSTANDING then (1 : Int32) else (if va = a_REQUEST then (1 : Int32) else (if va = a_LIST_CLAIMS then (1 : Int32) else (0 : Int32))))))))
def Q1 (Z : State) (va : Addr) (a_SHOW : Addr) (a_LIST : Addr) (a_AWAIT_CHANGE : Addr) (a_SHOW_CLAIM : Addr) (a_OUTSTANDING : Addr) (a_REQUEST : Addr) (a_LIST_CLAIMS : Addr) (h0 : Heap) (n0 : Nat) (v : Option Value) (h : Heap) (L : List Loc) : Prop := v = some (.int (own_reads va a_SHOW a_LIST a_AWAIT_CHANGE a_SHOW_CLAIM a_OUTSTANDING a_REQUEST a_LIST_CLAIMS)) ∧ Fr n0 L ∧ h = h0
set_option maxRecDepth 65536 in
set_option maxHeartbeats 40000000 in
theorem rm1 (l : Launch) (Z : State) (a0 : Array Value) (hw : ∀ d ∈ tables_1, d.before a0 Z = true) (ws : List Jvm.Cond) (va : Addr) (a_SHOW : Addr) (a_LIST : Addr) (a_AWAIT_CHANGE : Addr) (a_SHOW_CLAIM : Addr) (a_OUTSTANDING : Addr) (a_REQUEST : Addr) (a_LIST_CLAIMS : Addr) (h0 : Heap) (n0 : Nat) (Z0 : n0 ≤ h0.size) (S_SHOW : Sta Z h0 "com/example/hornbill/hornbill/metrics/StoreOperation" "SHOW" "Lcom/example/hornbill/hornbill/metrics/StoreOperation;" (.ref a_SHOW)) (S_LIST : Sta Z h0 "com/example/hornbill/hornbill/metrics/StoreOperation" "LIST" "Lcom/example/hornbill/hornbill/metrics/StoreOperation;" (.ref a_LIST)) (S_AWAIT_CHANGE : Sta Z h0 "com/example/hornbill/hornbill/metrics/StoreOperation" "AWAIT_CHANGE" "Lcom/example/hornbill/hornbill/metrics/StoreOperation;" (.ref a_AWAIT_CHANGE)) (S_SHOW_CLAIM : Sta Z h0 "com/example/hornbill/hornbill/metrics/StoreOperation" "SHOW_CLAIM" "Lcom/example/hornbill/hornbill/metrics/StoreOperation;" (.ref a_SHOW_CLAIM)) (S_OUTSTANDING : Sta Z h0 "com/example/hornbill/hornbill/metrics/StoreOperation" "OUTSTANDING" "Lcom/example/hornbill/hornbill/metrics/StoreOperation;" (.ref a_OUTSTANDING)) (S_REQUEST : Sta Z h0 "com/example/hornbill/hornbill/metrics/StoreOperation" "REQUEST" "Lcom/example/hornbill/hornbill/metrics/StoreOperation;" (.ref a_REQUEST)) (S_LIST_CLAIMS : Sta Z h0 "com/example/hornbill/hornbill/metrics/StoreOperation" "LIST_CLAIMS" "Lcom/example/hornbill/hornbill/metrics/StoreOperation;" (.ref a_LIST_CLAIMS)) :
    MetFree l (⟨"com/example/hornbill/hornbill/metrics/StoreOperation", "reads", "()Z"⟩ : MethodName) (head1 (Jvm.Cond.code (⟨"com/example/hornbill/hornbill/metrics/StoreOperation", "reads", "()Z"⟩ : MethodName) prog_8_method_4_code 1 (some .boolean) :: ws) ({ frames := 0, cells := 0, slots := 0, locals := 0 } : Room)) (fun a U => a = #[(.ref va)] ∧ Z.Warmed39 U.vm ∧ U.heap = h0) (fun _ _ _ _ _ => True) (fun _ U o U' => ∃ v L, o = .returned v ∧ Q1 Z va a_SHOW a_LIST a_AWAIT_CHANGE a_SHOW_CLAIM a_OUTSTANDING a_REQUEST a_LIST_CLAIMS h0 n0 v U'.heap L ∧ FrameEnd U o U' L ({ frames := 0, cells := 0, slots := 0, locals := 0 } : Room).cells ({ frames := 0, cells := 0, slots := 0, locals := 0 } : Room).slots) := by
  refine MetFree.of_bodySF (plainFor_of_name pn_25) hisR ?_
  intro p e s m args below meth c s₁ Bd hml0 hP hK
  obtain ⟨rfl, hZ, hh⟩ := hP
  have hx := Bd.exec
  have hby := Bd.bytes
  have hml : c.maxLocals = 1 := hml0
  have hown : s.vm.findClass "com/example/hornbill/hornbill/metrics/StoreOperation" = some m.cls := findClass_of_methodNamed Bd.named
  have hnm := (name_of_methodNamed Bd.named Bd.method).1
  have X0 : Stand p l e ({ frames := 0, cells := 0, slots := 0, locals := 0 } : Room) s m #[(.ref va)] below meth c s₁ [] 0 0 := Stand.of_body Bd
  have e0 : s₁.heap = h0 := by rw [← hh, Bd.state]; rfl
  have N0 := Fr.nil n0
  have pre0 : ∀ t, Steps p.tables e below (s₁.setTop (mkF m 0 #[.val (.ref va)] [])) t → Steps p.tables e below (s₁.setTop (entryFrame m #[(.ref va)] 1)) t := fun t k => castTop (ef_rm1 m va) k
  obtain ⟨T1, X1, e1, st1⟩ := getS2 X0 hx hZ hown (host := "") (Or.inl (hw _ (List.mem_of_getElem? (i := 49) rfl))) Via.refl e0 S_SHOW (g := (mkF m 1 #[.val (.ref va)] [(.ref va)])) rfl (hb hby d1_1)
  have pre2 : ∀ t, Steps p.tables e below (T1.setTop (mkF m 4 #[.val (.ref va)] [(.ref a_SHOW), (.ref va)])) t → Steps p.tables e below (s₁.setTop (entryFrame m #[(.ref va)] 1)) t := by
    intro t kt
    refine pre0 t ?_
    show Steps p.tables e below (s₁.setTop (mkF m 0 #[.val (.ref va)] [])) _
    refine XS.aloadN X0.here hx rfl (hb hby d1_0) rfl rfl ?_
    show Steps p.tables e below (s₁.setTop (mkF m 1 #[.val (.ref va)] [(.ref va)])) _
    refine st1 _ ?_
    exact kt
  by_cases hc3 : va = a_SHOW
  ·
    obtain ⟨fs, hr, hrun, hended, hW, hsame⟩ := X1.leave (v := some (.int (1 : Int32))) (fun h => by rw [Bd.returns] at h; cases h)
    refine ⟨_, _, pre2 _ ?_, hrun, hended, _, _, rfl, ?_, ⟨_, rfl⟩, hW, hsame.mono (by decide) (by decide)⟩
    ·
      show Steps p.tables e below (T1.setTop (mkF m 4 #[.val (.ref va)] [(.ref a_SHOW), (.ref va)])) _
      refine Jvm.RoadKit.acmp (g := (mkF m 4 #[.val (.ref va)] [(.ref a_SHOW), (.ref va)])) X1 hx rfl rfl rfl (pc0 := 4) (pc' := 49) (same := true) rfl (hb hby d1_4) rfl (decide_eq_true (congrArg Value.ref (hc3 : va = a_SHOW))) (by decide) (by decide) ?_
      show Steps p.tables e below (T1.setTop (mkF m 49 #[.val (.ref va)] [])) _
      refine XS.iconst X1.here hx rfl (hb hby d1_49) ?_
      show Steps p.tables e below (T1.setTop (mkF m 50 #[.val (.ref va)] [(.int (1 : Int32))])) _
      refine XS.goto X1.here hx rfl (pc0 := 50) (pc' := 54) rfl (hb hby d1_50) (by decide) (by decide) ?_
      show Steps p.tables e below (T1.setTop (mkF m 54 #[.val (.ref va)] [(.int (1 : Int32))])) _
      exact retN X1 hx (t := .boolean) Bd.returns (by simp) (hb hby d1_54) hr
    ·
      show Q1 Z va a_SHOW a_LIST a_AWAIT_CHANGE a_SHOW_CLAIM a_OUTSTANDING a_REQUEST a_LIST_CLAIMS h0 n0 _ T1.heap _
      rw [e1]
      have hv : (1 : Int32) = (own_reads va a_SHOW a_LIST a_AWAIT_CHANGE a_SHOW_CLAIM a_OUTSTANDING a_REQUEST a_LIST_CLAIMS) := by rw [own_reads, if_pos hc3]
      exact ⟨(congrArg (fun z => some (Value.int z)) hv), N0, rfl⟩
  ·
    obtain ⟨T4, X4, e4, st4⟩ := getS2 X1 hx hZ hown (host := "") (Or.inl (hw _ (List.mem_of_getElem? (i := 50) rfl))) Via.refl e1 S_LIST (g := (mkF m 8 #[.val (.ref va)] [(.ref va)])) rfl (hb hby d1_8)
    have pre5 : ∀ t, Steps p.tables e below (T4.setTop (mkF m 11 #[.val (.ref va)] [(.ref a_LIST), (.ref va)])) t → Steps p.tables e below (s₁.setTop (entryFrame m #[(.ref va)] 1)) t := by
      intro t kt
      refine pre2 t ?_
      show Steps p.tables e below (T1.setTop (mkF m 4 #[.val (.ref va)] [(.ref a_SHOW), (.ref va)])) _
      refine Jvm.RoadKit.acmp (g := (mkF m 4 #[.val (.ref va)] [(.ref a_SHOW), (.ref va)])) X1 hx rfl rfl rfl (pc0 := 4) (pc' := 7) (same := false) rfl (hb hby d1_4) rfl (decide_eq_false fun q => (hc3 : ¬ (va = a_SHOW)) (Value.ref.inj q)) (by decide) (by decide) ?_
      show Steps p.tables e below (T1.setTop (mkF m 7 #[.val (.ref va)] [])) _
      refine XS.aloadN X1.here hx rfl (hb hby d1_7) rfl rfl ?_
      show Steps p.tables e below (T1.setTop (mkF m 8 #[.val (.ref va)] [(.ref va)])) _
      refine st4 _ ?_
      exact kt
    by_cases hc6 : va = a_LIST
    ·
      obtain ⟨fs, hr, hrun, hended, hW, hsame⟩ := X4.leave (v := some (.int (1 : Int32))) (fun h => by rw [Bd.returns] at h; cases h)
      refine ⟨_, _, pre5 _ ?_, hrun, hended, _, _, rfl, ?_, ⟨_, rfl⟩, hW, hsame.mono (by decide) (by decide)⟩
      ·
        show Steps p.tables e below (T4.setTop (mkF m 11 #[.val (.ref va)] [(.ref a_LIST), (.ref va)])) _
        refine Jvm.RoadKit.acmp (g := (mkF m 11 #[.val (.ref va)] [(.ref a_LIST), (.ref va)])) X4 hx rfl rfl rfl (pc0 := 11) (pc' := 49) (same := true) rfl (hb hby d1_11) rfl (decide_eq_true (congrArg Value.ref (hc6 : va = a_LIST))) (by decide) (by decide) ?_
        show Steps p.tables e below (T4.setTop (mkF m 49 #[.val (.ref va)] [])) _
        refine XS.iconst X4.here hx rfl (hb hby d1_49) ?_
        show Steps p.tables e below (T4.setTop (mkF m 50 #[.val (.ref va)] [(.int (1 : Int32))])) _
        refine XS.goto X4.here hx rfl (pc0 := 50) (pc' := 54) rfl (hb hby d1_50) (by decide) (by decide) ?_
        show Steps p.tables e below (T4.setTop (mkF m 54 #[.val (.ref va)] [(.int (1 : Int32))])) _
        exact retN X4 hx (t := .boolean) Bd.returns (by simp) (hb hby d1_54) hr
      ·
        show Q1 Z va a_SHOW a_LIST a_AWAIT_CHANGE a_SHOW_CLAIM a_OUTSTANDING a_REQUEST a_LIST_CLAIMS h0 n0 _ T4.heap _
        rw [e4]
        have hv : (1 : Int32) = (own_reads va a_SHOW a_LIST a_AWAIT_CHANGE a_SHOW_CLAIM a_OUTSTANDING a_REQUEST a_LIST_CLAIMS) := by rw [own_reads, if_neg hc3, if_pos hc6]
        exact ⟨(congrArg (fun z => some (Value.int z)) hv), N0, rfl⟩
    ·
      obtain ⟨T7, X7, e7, st7⟩ := getS2 X4 hx hZ hown (host := "") (Or.inl (hw _ (List.mem_of_getElem? (i := 51) rfl))) Via.refl e4 S_AWAIT_CHANGE (g := (mkF m 15 #[.val (.ref va)] [(.ref va)])) rfl (hb hby d1_15)
      have pre8 : ∀ t, Steps p.tables e below (T7.setTop (mkF m 18 #[.val (.ref va)] [(.ref a_AWAIT_CHANGE), (.ref va)])) t → Steps p.tables e below (s₁.setTop (entryFrame m #[(.ref va)] 1)) t := by
        intro t kt
        refine pre5 t ?_
        show Steps p.tables e below (T4.setTop (mkF m 11 #[.val (.ref va)] [(.ref a_LIST), (.ref va)])) _
        refine Jvm.RoadKit.acmp (g := (mkF m 11 #[.val (.ref va)] [(.ref a_LIST), (.ref va)])) X4 hx rfl rfl rfl (pc0 := 11) (pc' := 14) (same := false) rfl (hb hby d1_11) rfl (decide_eq_false fun q => (hc6 : ¬ (va = a_LIST)) (Value.ref.inj q)) (by decide) (by decide) ?_
        show Steps p.tables e below (T4.setTop (mkF m 14 #[.val (.ref va)] [])) _
        refine XS.aloadN X4.here hx rfl (hb hby d1_14) rfl rfl ?_
        show Steps p.tables e below (T4.setTop (mkF m 15 #[.val (.ref va)] [(.ref va)])) _
        refine st7 _ ?_
        exact kt
      by_cases hc9 : va = a_AWAIT_CHANGE
      ·
        obtain ⟨fs, hr, hrun, hended, hW, hsame⟩ := X7.leave (v := some (.int (1 : Int32))) (fun h => by rw [Bd.returns] at h; cases h)
        refine ⟨_, _, pre8 _ ?_, hrun, hended, _, _, rfl, ?_, ⟨_, rfl⟩, hW, hsame.mono (by decide) (by decide)⟩
        ·
          show Steps p.tables e below (T7.setTop (mkF m 18 #[.val (.ref va)] [(.ref a_AWAIT_CHANGE), (.ref va)])) _
          refine Jvm.RoadKit.acmp (g := (mkF m 18 #[.val (.ref va)] [(.ref a_AWAIT_CHANGE), (.ref va)])) X7 hx rfl rfl rfl (pc0 := 18) (pc' := 49) (same := true) rfl (hb hby d1_18) rfl (decide_eq_true (congrArg Value.ref (hc9 : va = a_AWAIT_CHANGE))) (by decide) (by decide) ?_
          show Steps p.tables e below (T7.setTop (mkF m 49 #[.val (.ref va)] [])) _
          refine XS.iconst X7.here hx rfl (hb hby d1_49) ?_
          show Steps p.tables e below (T7.setTop (mkF m 50 #[.val (.ref va)] [(.int (1 : Int32))])) _
          refine XS.goto X7.here hx rfl (pc0 := 50) (pc' := 54) rfl (hb hby d1_50) (by decide) (by decide) ?_
          show Steps p.tables e below (T7.setTop (mkF m 54 #[.val (.ref va)] [(.int (1 : Int32))])) _
          exact retN X7 hx (t := .boolean) Bd.returns (by simp) (hb hby d1_54) hr
        ·
          show Q1 Z va a_SHOW a_LIST a_AWAIT_CHANGE a_SHOW_CLAIM a_OUTSTANDING a_REQUEST a_LIST_CLAIMS h0 n0 _ T7.heap _
          rw [e7]
          have hv : (1 : Int32) = (own_reads va a_SHOW a_LIST a_AWAIT_CHANGE a_SHOW_CLAIM a_OUTSTANDING a_REQUEST a_LIST_CLAIMS) := by rw [own_reads, if_neg hc3, if_neg hc6, if_pos hc9]
          exact ⟨(congrArg (fun z => some (Value.int z)) hv), N0, rfl⟩
      ·
        obtain ⟨T10, X10, e10, st10⟩ := getS2 X7 hx hZ hown (host := "") (Or.inl (hw _ (List.mem_of_getElem? (i := 52) rfl))) Via.refl e7 S_SHOW_CLAIM (g := (mkF m 22 #[.val (.ref va)] [(.ref va)])) rfl (hb hby d1_22)
        have pre11 : ∀ t, Steps p.tables e below (T10.setTop (mkF m 25 #[.val (.ref va)] [(.ref a_SHOW_CLAIM), (.ref va)])) t → Steps p.tables e below (s₁.setTop (entryFrame m #[(.ref va)] 1)) t := by
          intro t kt
          refine pre8 t ?_
          show Steps p.tables e below (T7.setTop (mkF m 18 #[.val (.ref va)] [(.ref a_AWAIT_CHANGE), (.ref va)])) _
          refine Jvm.RoadKit.acmp (g := (mkF m 18 #[.val (.ref va)] [(.ref a_AWAIT_CHANGE), (.ref va)])) X7 hx rfl rfl rfl (pc0 := 18) (pc' := 21) (same := false) rfl (hb hby d1_18) rfl (decide_eq_false fun q => (hc9 : ¬ (va = a_AWAIT_CHANGE)) (Value.ref.inj q)) (by decide) (by decide) ?_
          show Steps p.tables e below (T7.setTop (mkF m 21 #[.val (.ref va)] [])) _
          refine XS.aloadN X7.here hx rfl (hb hby d1_21) rfl rfl ?_
          show Steps p.tables e below (T7.setTop (mkF m 22 #[.val (.ref va)] [(.ref va)])) _
          refine st10 _ ?_
          exact kt
        by_cases hc12 : va = a_SHOW_CLAIM
        ·
          obtain ⟨fs, hr, hrun, hended, hW, hsame⟩ := X10.leave (v := some (.int (1 : Int32))) (fun h => by rw [Bd.returns] at h; cases h)
          refine ⟨_, _, pre11 _ ?_, hrun, hended, _, _, rfl, ?_, ⟨_, rfl⟩, hW, hsame.mono (by decide) (by decide)⟩
          ·
            show Steps p.tables e below (T10.setTop (mkF m 25 #[.val (.ref va)] [(.ref a_SHOW_CLAIM), (.ref va)])) _
            refine Jvm.RoadKit.acmp (g := (mkF m 25 #[.val (.ref va)] [(.ref a_SHOW_CLAIM), (.ref va)])) X10 hx rfl rfl rfl (pc0 := 25) (pc' := 49) (same := true) rfl (hb hby d1_25) rfl (decide_eq_true (congrArg Value.ref (hc12 : va = a_SHOW_CLAIM))) (by decide) (by decide) ?_
            show Steps p.tables e below (T10.setTop (mkF m 49 #[.val (.ref va)] [])) _
            refine XS.iconst X10.here hx rfl (hb hby d1_49) ?_
            show Steps p.tables e below (T10.setTop (mkF m 50 #[.val (.ref va)] [(.int (1 : Int32))])) _
            refine XS.goto X10.here hx rfl (pc0 := 50) (pc' := 54) rfl (hb hby d1_50) (by decide) (by decide) ?_
            show Steps p.tables e below (T10.setTop (mkF m 54 #[.val (.ref va)] [(.int (1 : Int32))])) _
            exact retN X10 hx (t := .boolean) Bd.returns (by simp) (hb hby d1_54) hr
          ·
            show Q1 Z va a_SHOW a_LIST a_AWAIT_CHANGE a_SHOW_CLAIM a_OUTSTANDING a_REQUEST a_LIST_CLAIMS h0 n0 _ T10.heap _
            rw [e10]
            have hv : (1 : Int32) = (own_reads va a_SHOW a_LIST a_AWAIT_CHANGE a_SHOW_CLAIM a_OUTSTANDING a_REQUEST a_LIST_CLAIMS) := by rw [own_reads, if_neg hc3, if_neg hc6, if_neg hc9, if_pos hc12]
            exact ⟨(congrArg (fun z => some (Value.int z)) hv), N0, rfl⟩
        ·
          obtain ⟨T13, X13, e13, st13⟩ := getS2 X10 hx hZ hown (host := "") (Or.inl (hw _ (List.mem_of_getElem? (i := 53) rfl))) Via.refl e10 S_OUTSTANDING (g := (mkF m 29 #[.val (.ref va)] [(.ref va)])) rfl (hb hby d1_29)
          have pre14 : ∀ t, Steps p.tables e below (T13.setTop (mkF m 32 #[.val (.ref va)] [(.ref a_OUTSTANDING), (.ref va)])) t → Steps p.tables e below (s₁.setTop (entryFrame m #[(.ref va)] 1)) t := by
            intro t kt
            refine pre11 t ?_
            show Steps p.tables e below (T10.setTop (mkF m 25 #[.val (.ref va)] [(.ref a_SHOW_CLAIM), (.ref va)])) _
            refine Jvm.RoadKit.acmp (g := (mkF m 25 #[.val (.ref va)] [(.ref a_SHOW_CLAIM), (.ref va)])) X10 hx rfl rfl rfl (pc0 := 25) (pc' := 28) (same := false) rfl (hb hby d1_25) rfl (decide_eq_false fun q => (hc12 : ¬ (va = a_SHOW_CLAIM)) (Value.ref.inj q)) (by decide) (by decide) ?_
            show Steps p.tables e below (T10.setTop (mkF m 28 #[.val (.ref va)] [])) _
            refine XS.aloadN X10.here hx rfl (hb hby d1_28) rfl rfl ?_
            show Steps p.tables e below (T10.setTop (mkF m 29 #[.val (.ref va)] [(.ref va)])) _
            refine st13 _ ?_
            exact kt
          by_cases hc15 : va = a_OUTSTANDING
          ·
            obtain ⟨fs, hr, hrun, hended, hW, hsame⟩ := X13.leave (v := some (.int (1 : Int32))) (fun h => by rw [Bd.returns] at h; cases h)
            refine ⟨_, _, pre14 _ ?_, hrun, hended, _, _, rfl, ?_, ⟨_, rfl⟩, hW, hsame.mono (by decide) (by decide)⟩
            ·
              show Steps p.tables e below (T13.setTop (mkF m 32 #[.val (.ref va)] [(.ref a_OUTSTANDING), (.ref va)])) _
              refine Jvm.RoadKit.acmp (g := (mkF m 32 #[.val (.ref va)] [(.ref a_OUTSTANDING), (.ref va)])) X13 hx rfl rfl rfl (pc0 := 32) (pc' := 49) (same := true) rfl (hb hby d1_32) rfl (decide_eq_true (congrArg Value.ref (hc15 : va = a_OUTSTANDING))) (by decide) (by decide) ?_
              show Steps p.tables e below (T13.setTop (mkF m 49 #[.val (.ref va)] [])) _
              refine XS.iconst X13.here hx rfl (hb hby d1_49) ?_
              show Steps p.tables e below (T13.setTop (mkF m 50 #[.val (.ref va)] [(.int (1 : Int32))])) _
              refine XS.goto X13.here hx rfl (pc0 := 50) (pc' := 54) rfl (hb hby d1_50) (by decide) (by decide) ?_
              show Steps p.tables e below (T13.setTop (mkF m 54 #[.val (.ref va)] [(.int (1 : Int32))])) _
              exact retN X13 hx (t := .boolean) Bd.returns (by simp) (hb hby d1_54) hr
            ·
              show Q1 Z va a_SHOW a_LIST a_AWAIT_CHANGE a_SHOW_CLAIM a_OUTSTANDING a_REQUEST a_LIST_CLAIMS h0 n0 _ T13.heap _
              rw [e13]
              have hv : (1 : Int32) = (own_reads va a_SHOW a_LIST a_AWAIT_CHANGE a_SHOW_CLAIM a_OUTSTANDING a_REQUEST a_LIST_CLAIMS) := by rw [own_reads, if_neg hc3, if_neg hc6, if_neg hc9, if_neg hc12, if_pos hc15]
              exact ⟨(congrArg (fun z => some (Value.int z)) hv), N0, rfl⟩
          ·
            obtain ⟨T16, X16, e16, st16⟩ := getS2 X13 hx hZ hown (host := "") (Or.inl (hw _ (List.mem_of_getElem? (i := 54) rfl))) Via.refl e13 S_REQUEST (g := (mkF m 36 #[.val (.ref va)] [(.ref va)])) rfl (hb hby d1_36)
            have pre17 : ∀ t, Steps p.tables e below (T16.setTop (mkF m 39 #[.val (.ref va)] [(.ref a_REQUEST), (.ref va)])) t → Steps p.tables e below (s₁.setTop (entryFrame m #[(.ref va)] 1)) t := by
              intro t kt
              refine pre14 t ?_
              show Steps p.tables e below (T13.setTop (mkF m 32 #[.val (.ref va)] [(.ref a_OUTSTANDING), (.ref va)])) _
              refine Jvm.RoadKit.acmp (g := (mkF m 32 #[.val (.ref va)] [(.ref a_OUTSTANDING), (.ref va)])) X13 hx rfl rfl rfl (pc0 := 32) (pc' := 35) (same := false) rfl (hb hby d1_32) rfl (decide_eq_false fun q => (hc15 : ¬ (va = a_OUTSTANDING)) (Value.ref.inj q)) (by decide) (by decide) ?_
              show Steps p.tables e below (T13.setTop (mkF m 35 #[.val (.ref va)] [])) _
              refine XS.aloadN X13.here hx rfl (hb hby d1_35) rfl rfl ?_
              show Steps p.tables e below (T13.setTop (mkF m 36 #[.val (.ref va)] [(.ref va)])) _
              refine st16 _ ?_
              exact kt
            by_cases hc18 : va = a_REQUEST
            ·
              obtain ⟨fs, hr, hrun, hended, hW, hsame⟩ := X16.leave (v := some (.int (1 : Int32))) (fun h => by rw [Bd.returns] at h; cases h)
              refine ⟨_, _, pre17 _ ?_, hrun, hended, _, _, rfl, ?_, ⟨_, rfl⟩, hW, hsame.mono (by decide) (by decide)⟩
              ·
                show Steps p.tables e below (T16.setTop (mkF m 39 #[.val (.ref va)] [(.ref a_REQUEST), (.ref va)])) _
                refine Jvm.RoadKit.acmp (g := (mkF m 39 #[.val (.ref va)] [(.ref a_REQUEST), (.ref va)])) X16 hx rfl rfl rfl (pc0 := 39) (pc' := 49) (same := true) rfl (hb hby d1_39) rfl (decide_eq_true (congrArg Value.ref (hc18 : va = a_REQUEST))) (by decide) (by decide) ?_
                show Steps p.tables e below (T16.setTop (mkF m 49 #[.val (.ref va)] [])) _
                refine XS.iconst X16.here hx rfl (hb hby d1_49) ?_
                show Steps p.tables e below (T16.setTop (mkF m 50 #[.val (.ref va)] [(.int (1 : Int32))])) _
                refine XS.goto X16.here hx rfl (pc0 := 50) (pc' := 54) rfl (hb hby d1_50) (by decide) (by decide) ?_
                show Steps p.tables e below (T16.setTop (mkF m 54 #[.val (.ref va)] [(.int (1 : Int32))])) _
                exact retN X16 hx (t := .boolean) Bd.returns (by simp) (hb hby d1_54) hr
              ·
                show Q1 Z va a_SHOW a_LIST a_AWAIT_CHANGE a_SHOW_CLAIM a_OUTSTANDING a_REQUEST a_LIST_CLAIMS h0 n0 _ T16.heap _
                rw [e16]
                have hv : (1 : Int32) = (own_reads va a_SHOW a_LIST a_AWAIT_CHANGE a_SHOW_CLAIM a_OUTSTANDING a_REQUEST a_LIST_CLAIMS) := by rw [own_reads, if_neg hc3, if_neg hc6, if_neg hc9, if_neg hc12, if_neg hc15, if_pos hc18]
                exact ⟨(congrArg (fun z => some (Value.int z)) hv), N0, rfl⟩
            ·
              obtain ⟨T19, X19, e19, st19⟩ := getS2 X16 hx hZ hown (host := "") (Or.inl (hw _ (List.mem_of_getElem? (i := 55) rfl))) Via.refl e16 S_LIST_CLAIMS (g := (mkF m 43 #[.val (.ref va)] [(.ref va)])) rfl (hb hby d1_43)
              have pre20 : ∀ t, Steps p.tables e below (T19.setTop (mkF m 46 #[.val (.ref va)] [(.ref a_LIST_CLAIMS), (.ref va)])) t → Steps p.tables e below (s₁.setTop (entryFrame m #[(.ref va)] 1)) t := by
                intro t kt
                refine pre17 t ?_
                show Steps p.tables e below (T16.setTop (mkF m 39 #[.val (.ref va)] [(.ref a_REQUEST), (.ref va)])) _
                refine Jvm.RoadKit.acmp (g := (mkF m 39 #[.val (.ref va)] [(.ref a_REQUEST), (.ref va)])) X16 hx rfl rfl rfl (pc0 := 39) (pc' := 42) (same := false) rfl (hb hby d1_39) rfl (decide_eq_false fun q => (hc18 : ¬ (va = a_REQUEST)) (Value.ref.inj q)) (by decide) (by decide) ?_
                show Steps p.tables e below (T16.setTop (mkF m 42 #[.val (.ref va)] [])) _
                refine XS.aloadN X16.here hx rfl (hb hby d1_42) rfl rfl ?_
                show Steps p.tables e below (T16.setTop (mkF m 43 #[.val (.ref va)] [(.ref va)])) _
                refine st19 _ ?_
                exact kt
              by_cases hc21 : va = a_LIST_CLAIMS
              ·
                obtain ⟨fs, hr, hrun, hended, hW, hsame⟩ := X19.leave (v := some (.int (1 : Int32))) (fun h => by rw [Bd.returns] at h; cases h)
                refine ⟨_, _, pre20 _ ?_, hrun, hended, _, _, rfl, ?_, ⟨_, rfl⟩, hW, hsame.mono (by decide) (by decide)⟩
                ·
                  show Steps p.tables e below (T19.setTop (mkF m 46 #[.val (.ref va)] [(.ref a_LIST_CLAIMS), (.ref va)])) _
                  refine Jvm.RoadKit.acmp (g := (mkF m 46 #[.val (.ref va)] [(.ref a_LIST_CLAIMS), (.ref va)])) X19 hx rfl rfl rfl (pc0 := 46) (pc' := 49) (same := true) rfl (hb hby d1_46) rfl (decide_eq_true (congrArg Value.ref (hc21 : va = a_LIST_CLAIMS))) (by decide) (by decide) ?_
                  show Steps p.tables e below (T19.setTop (mkF m 49 #[.val (.ref va)] [])) _
                  refine XS.iconst X19.here hx rfl (hb hby d1_49) ?_
                  show Steps p.tables e below (T19.setTop (mkF m 50 #[.val (.ref va)] [(.int (1 : Int32))])) _
                  refine XS.goto X19.here hx rfl (pc0 := 50) (pc' := 54) rfl (hb hby d1_50) (by decide) (by decide) ?_
                  show Steps p.tables e below (T19.setTop (mkF m 54 #[.val (.ref va)] [(.int (1 : Int32))])) _
                  exact retN X19 hx (t := .boolean) Bd.returns (by simp) (hb hby d1_54) hr
                ·
                  show Q1 Z va a_SHOW a_LIST a_AWAIT_CHANGE a_SHOW_CLAIM a_OUTSTANDING a_REQUEST a_LIST_CLAIMS h0 n0 _ T19.heap _
                  rw [e19]
                  have hv : (1 : Int32) = (own_reads va a_SHOW a_LIST a_AWAIT_CHANGE a_SHOW_CLAIM a_OUTSTANDING a_REQUEST a_LIST_CLAIMS) := by rw [own_reads, if_neg hc3, if_neg hc6, if_neg hc9, if_neg hc12, if_neg hc15, if_neg hc18, if_pos hc21]
                  exact ⟨(congrArg (fun z => some (Value.int z)) hv), N0, rfl⟩
              ·
                obtain ⟨fs, hr, hrun, hended, hW, hsame⟩ := X19.leave (v := some (.int (0 : Int32))) (fun h => by rw [Bd.returns] at h; cases h)
                refine ⟨_, _, pre20 _ ?_, hrun, hended, _, _, rfl, ?_, ⟨_, rfl⟩, hW, hsame.mono (by decide) (by decide)⟩
                ·
                  show Steps p.tables e below (T19.setTop (mkF m 46 #[.val (.ref va)] [(.ref a_LIST_CLAIMS), (.ref va)])) _
                  refine Jvm.RoadKit.acmp (g := (mkF m 46 #[.val (.ref va)] [(.ref a_LIST_CLAIMS), (.ref va)])) X19 hx rfl rfl rfl (pc0 := 46) (pc' := 53) (same := false) rfl (hb hby d1_46) rfl (decide_eq_false fun q => (hc21 : ¬ (va = a_LIST_CLAIMS)) (Value.ref.inj q)) (by decide) (by decide) ?_
                  show Steps p.tables e below (T19.setTop (mkF m 53 #[.val (.ref va)] [])) _
                  refine XS.iconst X19.here hx rfl (hb hby d1_53) ?_
                  show Steps p.tables e below (T19.setTop (mkF m 54 #[.val (.ref va)] [(.int (0 : Int32))])) _
                  exact retN X19 hx (t := .boolean) Bd.returns (by simp) (hb hby d1_54) hr
                ·
                  show Q1 Z va a_SHOW a_LIST a_AWAIT_CHANGE a_SHOW_CLAIM a_OUTSTANDING a_REQUEST a_LIST_CLAIMS h0 n0 _ T19.heap _
                  rw [e19]
                  have hv : (0 : Int32) = (own_reads va a_SHOW a_LIST a_AWAIT_CHANGE a_SHOW_CLAIM a_OUTSTANDING a_REQUEST a_LIST_CLAIMS) := by rw [own_reads, if_neg hc3, if_neg hc6, if_neg hc9, if_neg hc12, if_neg hc15, if_neg hc18, if_neg hc21]
                  exact ⟨(congrArg (fun z => some (Value.int z)) hv), N0, rfl⟩
theorem own_and_max32 (u : Int32) : 0 ≤ (u &&& (2147483647 : Int32)).toInt := by
  have : (u &&& (2147483647 : Int32)).toInt = (u.toBitVec &&& 2147483647#32).toInt := rfl
  rw [this, BitVec.toInt_eq_toNat_of_lt]
  · omega
  · rw [BitVec.toNat_and]
    have := Nat.and_le_right (n := u.toBitVec.toNat) (m := (2147483647#32).toNat)
    have e : (2147483647#32).toNat = 2147483647 := rfl
    omega
theorem own_19 {i u : Int32} (h : i = (u &&& (2147483647 : Int32)) % (19 : Int32)) : i = (0 : Int32) ∨ i = (1 : Int32) ∨ i = (2 : Int32) ∨ i = (3 : Int32) ∨ i = (4 : Int32) ∨ i = (5 : Int32) ∨ i = (6 : Int32) ∨ i = (7 : Int32) ∨ i = (8 : Int32) ∨ i = (9 : Int32) ∨ i = (10 : Int32) ∨ i = (11 : Int32) ∨ i = (12 : Int32) ∨ i = (13 : Int32) ∨ i = (14 : Int32) ∨ i = (15 : Int32) ∨ i = (16 : Int32) ∨ i = (17 : Int32) ∨ i = (18 : Int32) := by
  have e : i.toInt = (u &&& (2147483647 : Int32)).toInt.tmod 19 := by rw [h]; exact Int32.toInt_mod _ _
  have b1 := Int.tmod_nonneg 19 (own_and_max32 u)
  have b2 := Int.tmod_lt_of_pos (u &&& (2147483647 : Int32)).toInt (show (0 : Int) < 19 by decide)
  simp only [← Int32.toInt_inj]
  show i.toInt = 0 ∨ i.toInt = 1 ∨ i.toInt = 2 ∨ i.toInt = 3 ∨ i.toInt = 4 ∨ i.toInt = 5 ∨ i.toInt = 6 ∨ i.toInt = 7 ∨ i.toInt = 8 ∨ i.toInt = 9 ∨ i.toInt = 10 ∨ i.toInt = 11 ∨ i.toInt = 12 ∨ i.toInt = 13 ∨ i.toInt = 14 ∨ i.toInt = 15 ∨ i.toInt = 16 ∨ i.toInt = 17 ∨ i.toInt = 18
  omega
theorem own_ne {f : Addr → Int32} {a b : Addr} {i j : Int32} (ha : f a = i) (hb : f b = j) (h : i ≠ j) : ¬ a = b := fun q => h (by rw [← ha, ← hb, q])
def own_ordv (s : State) (x : Addr) : Int32 := match s.fieldOf? x "java/lang/Enum" "ordinal" "I" with | some (.int k) => k | _ => -1
theorem own_ordv_eq {s : State} {x : Addr} {k : Int32} (h : s.fieldOf? x "java/lang/Enum" "ordinal" "I" = some (.int k)) : own_ordv s x = k := by simp [own_ordv, h]
theorem pd_0 : parseMethodDescriptor "()Z" = some ⟨[], some .boolean⟩ := by decide +kernel
theorem pn_26 : plainName "com/example/hornbill/hornbill/metrics/StoreOperationReadsPinLaw" = true := by first | (simp [plainName, overriddenIn]; done) | decide +kernel
theorem ef_rm0 (m : MethodId) (x0 : Int32) : entryFrame m #[(.int x0)] maxLocals = mkF m 0 #[.val (.int x0), .unset, .unset, .unset] [] := by first | (simp [entryFrame, mkF, argsToLocals, Value.category, maxLocals]; done) | rfl
def Q0 (Z : State) (vx : Int32) (a_ACQUIRE : Addr) (a_ACQUIRE_WAITING : Addr) (a_RENEW : Addr) (a_RELEASE : Addr) (a_REVOKE : Addr) (a_RENEW_ON_ACCESS : Addr) (a_FENCE : Addr) (a_SHOW : Addr) (a_LIST : Addr) (a_AWAIT_CHANGE : Addr) (a_BEGIN : Addr) (a_COMMIT : Addr) (a_ROLLBACK : Addr) (a_SHOW_CLAIM : Addr) (a_OUTSTANDING : Addr) (a_REQUEST : Addr) (a_LIST_CLAIMS : Addr) (a_PURGE : Addr) (a_DROP : Addr) (fo : Addr → Int32) (h0 : Heap) (n0 : Nat) (v : Option Value) (h : Heap) (L : List Loc) : Prop := v = some (.int (1 : Int32)) ∧ Fr n0 L
set_option maxRecDepth 65536 in
set_option maxHeartbeats 40000000 in
theorem rm0 (l : Launch) (Z : State) (a0 : Array Value) (hw : ∀ d ∈ tables_1, d.before a0 Z = true) (ws : List Jvm.Cond) (vx : Int32) (a_ACQUIRE : Addr) (a_ACQUIRE_WAITING : Addr) (a_RENEW : Addr) (a_RELEASE : Addr) (a_REVOKE : Addr) (a_RENEW_ON_ACCESS : Addr) (a_FENCE : Addr) (a_SHOW : Addr) (a_LIST : Addr) (a_AWAIT_CHANGE : Addr) (a_BEGIN : Addr) (a_COMMIT : Addr) (a_ROLLBACK : Addr) (a_SHOW_CLAIM : Addr) (a_OUTSTANDING : Addr) (a_REQUEST : Addr) (a_LIST_CLAIMS : Addr) (a_PURGE : Addr) (a_DROP : Addr) (fo : Addr → Int32) (h0 : Heap) (n0 : Nat) (Z0 : n0 ≤ h0.size) (S_ACQUIRE : Sta Z h0 "com/example/hornbill/hornbill/metrics/StoreOperation" "ACQUIRE" "Lcom/example/hornbill/hornbill/metrics/StoreOperation;" (.ref a_ACQUIRE)) (S_ACQUIRE_WAITING : Sta Z h0 "com/example/hornbill/hornbill/metrics/StoreOperation" "ACQUIRE_WAITING" "Lcom/example/hornbill/hornbill/metrics/StoreOperation;" (.ref a_ACQUIRE_WAITING)) (S_RENEW : Sta Z h0 "com/example/hornbill/hornbill/metrics/StoreOperation" "RENEW" "Lcom/example/hornbill/hornbill/metrics/StoreOperation;" (.ref a_RENEW)) (S_RELEASE : Sta Z h0 "com/example/hornbill/hornbill/metrics/StoreOperation" "RELEASE" "Lcom/example/hornbill/hornbill/metrics/StoreOperation;" (.ref a_RELEASE)) (S_REVOKE : Sta Z h0 "com/example/hornbill/hornbill/metrics/StoreOperation" "REVOKE" "Lcom/example/hornbill/hornbill/metrics/StoreOperation;" (.ref a_REVOKE)) (S_RENEW_ON_ACCESS : Sta Z h0 "com/example/hornbill/hornbill/metrics/StoreOperation" "RENEW_ON_ACCESS" "Lcom/example/hornbill/hornbill/metrics/StoreOperation;" (.ref a_RENEW_ON_ACCESS)) (S_FENCE : Sta Z h0 "com/example/hornbill/hornbill/metrics/StoreOperation" "FENCE" "Lcom/example/hornbill/hornbill/metrics/StoreOperation;" (.ref a_FENCE)) (S_SHOW : Sta Z h0 "com/example/hornbill/hornbill/metrics/StoreOperation" "SHOW" "Lcom/example/hornbill/hornbill/metrics/StoreOperation;" (.ref a_SHOW)) (S_LIST : Sta Z h0 "com/example/hornbill/hornbill/metrics/StoreOperation" "LIST" "Lcom/example/hornbill/hornbill/metrics/StoreOperation;" (.ref a_LIST)) (S_AWAIT_CHANGE : Sta Z h0 "com/example/hornbill/hornbill/metrics/StoreOperation" "AWAIT_CHANGE" "Lcom/example/hornbill/hornbill/metrics/StoreOperation;" (.ref a_AWAIT_CHANGE)) (S_BEGIN : Sta Z h0 "com/example/hornbill/hornbill/metrics/StoreOperation" "BEGIN" "Lcom/example/hornbill/hornbill/metrics/StoreOperation;" (.ref a_BEGIN)) (S_COMMIT : Sta Z h0 "com/example/hornbill/hornbill/metrics/StoreOperation" "COMMIT" "Lcom/example/hornbill/hornbill/metrics/StoreOperation;" (.ref a_COMMIT)) (S_ROLLBACK : Sta Z h0 "com/example/hornbill/hornbill/metrics/StoreOperation" "ROLLBACK" "Lcom/example/hornbill/hornbill/metrics/StoreOperation;" (.ref a_ROLLBACK)) (S_SHOW_CLAIM : Sta Z h0 "com/example/hornbill/hornbill/metrics/StoreOperation" "SHOW_CLAIM" "Lcom/example/hornbill/hornbill/metrics/StoreOperation;" (.ref a_SHOW_CLAIM)) (S_OUTSTANDING : Sta Z h0 "com/example/hornbill/hornbill/metrics/StoreOperation" "OUTSTANDING" "Lcom/example/hornbill/hornbill/metrics/StoreOperation;" (.ref a_OUTSTANDING)) (S_REQUEST : Sta Z h0 "com/example/hornbill/hornbill/metrics/StoreOperation" "REQUEST" "Lcom/example/hornbill/hornbill/metrics/StoreOperation;" (.ref a_REQUEST)) (S_LIST_CLAIMS : Sta Z h0 "com/example/hornbill/hornbill/metrics/StoreOperation" "LIST_CLAIMS" "Lcom/example/hornbill/hornbill/metrics/StoreOperation;" (.ref a_LIST_CLAIMS)) (S_PURGE : Sta Z h0 "com/example/hornbill/hornbill/metrics/StoreOperation" "PURGE" "Lcom/example/hornbill/hornbill/metrics/StoreOperation;" (.ref a_PURGE)) (S_DROP : Sta Z h0 "com/example/hornbill/hornbill/metrics/StoreOperation" "DROP" "Lcom/example/hornbill/hornbill/metrics/StoreOperation;" (.ref a_DROP)) (E_ACQUIRE : Exa Z h0 a_ACQUIRE "com/example/hornbill/hornbill/metrics/StoreOperation") (E_ACQUIRE_WAITING : Exa Z h0 a_ACQUIRE_WAITING "com/example/hornbill/hornbill/metrics/StoreOperation") (E_RENEW : Exa Z h0 a_RENEW "com/example/hornbill/hornbill/metrics/StoreOperation") (E_RELEASE : Exa Z h0 a_RELEASE "com/example/hornbill/hornbill/metrics/StoreOperation") (E_REVOKE : Exa Z h0 a_REVOKE "com/example/hornbill/hornbill/metrics/StoreOperation") (E_RENEW_ON_ACCESS : Exa Z h0 a_RENEW_ON_ACCESS "com/example/hornbill/hornbill/metrics/StoreOperation") (E_FENCE : Exa Z h0 a_FENCE "com/example/hornbill/hornbill/metrics/StoreOperation") (E_SHOW : Exa Z h0 a_SHOW "com/example/hornbill/hornbill/metrics/StoreOperation") (E_LIST : Exa Z h0 a_LIST "com/example/hornbill/hornbill/metrics/StoreOperation") (E_AWAIT_CHANGE : Exa Z h0 a_AWAIT_CHANGE "com/example/hornbill/hornbill/metrics/StoreOperation") (E_BEGIN : Exa Z h0 a_BEGIN "com/example/hornbill/hornbill/metrics/StoreOperation") (E_COMMIT : Exa Z h0 a_COMMIT "com/example/hornbill/hornbill/metrics/StoreOperation") (E_ROLLBACK : Exa Z h0 a_ROLLBACK "com/example/hornbill/hornbill/metrics/StoreOperation") (E_SHOW_CLAIM : Exa Z h0 a_SHOW_CLAIM "com/example/hornbill/hornbill/metrics/StoreOperation") (E_OUTSTANDING : Exa Z h0 a_OUTSTANDING "com/example/hornbill/hornbill/metrics/StoreOperation") (E_REQUEST : Exa Z h0 a_REQUEST "com/example/hornbill/hornbill/metrics/StoreOperation") (E_LIST_CLAIMS : Exa Z h0 a_LIST_CLAIMS "com/example/hornbill/hornbill/metrics/StoreOperation") (E_PURGE : Exa Z h0 a_PURGE "com/example/hornbill/hornbill/metrics/StoreOperation") (E_DROP : Exa Z h0 a_DROP "com/example/hornbill/hornbill/metrics/StoreOperation") (f_ACQUIRE : fo a_ACQUIRE = (0 : Int32)) (f_ACQUIRE_WAITING : fo a_ACQUIRE_WAITING = (1 : Int32)) (f_RENEW : fo a_RENEW = (2 : Int32)) (f_RELEASE : fo a_RELEASE = (3 : Int32)) (f_REVOKE : fo a_REVOKE = (4 : Int32)) (f_RENEW_ON_ACCESS : fo a_RENEW_ON_ACCESS = (5 : Int32)) (f_FENCE : fo a_FENCE = (6 : Int32)) (f_SHOW : fo a_SHOW = (7 : Int32)) (f_LIST : fo a_LIST = (8 : Int32)) (f_AWAIT_CHANGE : fo a_AWAIT_CHANGE = (9 : Int32)) (f_BEGIN : fo a_BEGIN = (10 : Int32)) (f_COMMIT : fo a_COMMIT = (11 : Int32)) (f_ROLLBACK : fo a_ROLLBACK = (12 : Int32)) (f_SHOW_CLAIM : fo a_SHOW_CLAIM = (13 : Int32)) (f_OUTSTANDING : fo a_OUTSTANDING = (14 : Int32)) (f_REQUEST : fo a_REQUEST = (15 : Int32)) (f_LIST_CLAIMS : fo a_LIST_CLAIMS = (16 : Int32)) (f_PURGE : fo a_PURGE = (17 : Int32)) (f_DROP : fo a_DROP = (18 : Int32)) :
    MetFree l x (head1 (Jvm.Cond.code x code maxLocals ret :: ws) room_1) (fun a U => a = #[(.int vx)] ∧ Z.Warmed39 U.vm ∧ U.heap = h0) (fun _ _ _ _ _ => True) (fun _ U o U' => ∃ v L, o = .returned v ∧ Q0 Z vx a_ACQUIRE a_ACQUIRE_WAITING a_RENEW a_RELEASE a_REVOKE a_RENEW_ON_ACCESS a_FENCE a_SHOW a_LIST a_AWAIT_CHANGE a_BEGIN a_COMMIT a_ROLLBACK a_SHOW_CLAIM a_OUTSTANDING a_REQUEST a_LIST_CLAIMS a_PURGE a_DROP fo h0 n0 v U'.heap L ∧ FrameEnd U o U' L room_1.cells room_1.slots) := by
  refine MetFree.of_bodySF (plainFor_of_name pn_26) hisR ?_
  intro p e s m args below meth c s₁ Bd hml0 hP hK
  obtain ⟨rfl, hZ, hh⟩ := hP
  have hx := Bd.exec
  have hby := Bd.bytes
  have hml : c.maxLocals = 4 := hml0
  have hown : s.vm.findClass "com/example/hornbill/hornbill/metrics/StoreOperationReadsPinLaw" = some m.cls := findClass_of_methodNamed Bd.named
  have hnm := (name_of_methodNamed Bd.named Bd.method).1
  have X0 : Stand p l e room_1 s m #[(.int vx)] below meth c s₁ [] 0 0 := Stand.of_body Bd
  have e0 : s₁.heap = h0 := by rw [← hh, Bd.state]; rfl
  have N0 := Fr.nil n0
  have pre0 : ∀ t, Steps p.tables e below (s₁.setTop (mkF m 0 #[.val (.int vx), .unset, .unset, .unset] [])) t → Steps p.tables e below (s₁.setTop (entryFrame m #[(.int vx)] maxLocals)) t := fun t k => castTop (ef_rm0 m vx) k
  obtain ⟨T1, h1, k1, X1, e1, E1, A1, O1, st1⟩ := newR X0 hx hZ hown (hw _ (List.mem_of_getElem? (i := 0) rfl)) (hw _ (List.mem_of_getElem? (i := 1) rfl)) e0 (g := (mkF m 2 #[.val (.int vx), .unset, .unset, .unset] [(.int (19 : Int32))])) rfl (hb hby at_2) rfl (by decide) (cap := 19) (by decide) (by decide) (by decide) (by decide)
  obtain ⟨b1, g1⟩ : ∃ z, z = h0.size := ⟨_, rfl⟩
  rw [← g1] at A1 st1
  have g_b1 : n0 ≤ b1 := Nat.le_trans Z0 (Nat.le_of_eq g1.symm)
  have sz_b1 : h0.size ≤ b1 := Nat.le_trans (Keep.refl h0 []).1 (Nat.le_of_eq g1.symm)
  have Z1 : n0 ≤ h1.size := Nat.le_trans Z0 E1.1
  have K1 : Keep h0 h1 [] := (Keep.refl h0 []).ext E1
  have V1 : Arv Z h1 b1 k1 (.object "com/example/hornbill/hornbill/metrics/StoreOperation") (19 : Int32) [.null, .null, .null, .null, .null, .null, .null, .null, .null, .null, .null, .null, .null, .null, .null, .null, .null, .null, .null] .null := (Arv.new A1 (by decide)).pad (pad_rep [] .null 19)
  obtain ⟨T2, X2, e2, st2⟩ := getS2 X1 hx hZ hown (host := "") (Or.inl (hw _ (List.mem_of_getElem? (i := 2) rfl))) Via.refl e1 (own_sta_keep S_ACQUIRE K1) (g := (mkF m 7 #[.val (.int vx), .unset, .unset, .unset] [(.int (0 : Int32)), (.ref b1), (.ref b1)])) rfl (hb hby at_7)
  obtain ⟨cl3, Ar3, q3, S3, NN3, HH3, GG3⟩ := V1
  have hin3 : ¬ ((0 : Int32) < 0 ∨ cl3.slots.size ≤ ((0 : Int32)).toNatClampNeg) := inb_of S3 ⟨by decide, by decide⟩
  obtain ⟨T4, h4, X4, e4, W4, st4⟩ := stR X2 hx hZ e2 Ar3 (j := (0 : Int32)) hin3 rfl (Sto.ofV Ar3 q3 O1 (Ins.self (E_ACQUIRE.keep K1))) (g := (mkF m 10 #[.val (.int vx), .unset, .unset, .unset] [(.ref a_ACQUIRE), (.int (0 : Int32)), (.ref b1), (.ref b1)])) rfl rfl (hb hby at_10)
  have V4 : Arv Z h4 b1 k1 (.object "com/example/hornbill/hornbill/metrics/StoreOperation") (19 : Int32) [(.ref a_ACQUIRE), .null, .null, .null, .null, .null, .null, .null, .null, .null, .null, .null, .null, .null, .null, .null, .null, .null, .null] .null := (Arv.set Ar3 q3 S3 NN3 HH3 GG3 rfl W4 0 rfl (Nat.le_of_ble_eq_true rfl))
  have Z4 : n0 ≤ h4.size := Nat.le_trans Z1 (Keep.of_wr W4).1
  have N4 := Fr.snoc X4 N0 g_b1
  have K4 : Keep h0 h4 [] := K1.wr W4 (Or.inr sz_b1)
  obtain ⟨T5, X5, e5, st5⟩ := getS2 X4 hx hZ hown (host := "") (Or.inl (hw _ (List.mem_of_getElem? (i := 6) rfl))) Via.refl e4 (own_sta_keep S_ACQUIRE_WAITING K4) (g := (mkF m 13 #[.val (.int vx), .unset, .unset, .unset] [(.int (1 : Int32)), (.ref b1), (.ref b1)])) rfl (hb hby at_13)
  obtain ⟨cl6, Ar6, q6, S6, NN6, HH6, GG6⟩ := V4
  have hin6 : ¬ ((1 : Int32) < 0 ∨ cl6.slots.size ≤ ((1 : Int32)).toNatClampNeg) := inb_of S6 ⟨by decide, by decide⟩
  obtain ⟨T7, h7, X7, e7, W7, st7⟩ := stR X5 hx hZ e5 Ar6 (j := (1 : Int32)) hin6 rfl (Sto.ofV Ar6 q6 O1 (Ins.self (E_ACQUIRE_WAITING.keep K4))) (g := (mkF m 16 #[.val (.int vx), .unset, .unset, .unset] [(.ref a_ACQUIRE_WAITING), (.int (1 : Int32)), (.ref b1), (.ref b1)])) rfl rfl (hb hby at_16)
  have V7 : Arv Z h7 b1 k1 (.object "com/example/hornbill/hornbill/metrics/StoreOperation") (19 : Int32) [(.ref a_ACQUIRE), (.ref a_ACQUIRE_WAITING), .null, .null, .null, .null, .null, .null, .null, .null, .null, .null, .null, .null, .null, .null, .null, .null, .null] .null := (Arv.set Ar6 q6 S6 NN6 HH6 GG6 rfl W7 1 rfl (Nat.le_of_ble_eq_true rfl))
  have Z7 : n0 ≤ h7.size := Nat.le_trans Z4 (Keep.of_wr W7).1
  have N7 := Fr.snoc X7 N4 g_b1
  have K7 : Keep h0 h7 [] := K4.wr W7 (Or.inr sz_b1)
  obtain ⟨T8, X8, e8, st8⟩ := getS2 X7 hx hZ hown (host := "") (Or.inl (hw _ (List.mem_of_getElem? (i := 8) rfl))) Via.refl e7 (own_sta_keep S_RENEW K7) (g := (mkF m 19 #[.val (.int vx), .unset, .unset, .unset] [(.int (2 : Int32)), (.ref b1), (.ref b1)])) rfl (hb hby at_19)
  obtain ⟨cl9, Ar9, q9, S9, NN9, HH9, GG9⟩ := V7
  have hin9 : ¬ ((2 : Int32) < 0 ∨ cl9.slots.size ≤ ((2 : Int32)).toNatClampNeg) := inb_of S9 ⟨by decide, by decide⟩
  obtain ⟨T10, h10, X10, e10, W10, st10⟩ := stR X8 hx hZ e8 Ar9 (j := (2 : Int32)) hin9 rfl (Sto.ofV Ar9 q9 O1 (Ins.self (E_RENEW.keep K7))) (g := (mkF m 22 #[.val (.int vx), .unset, .unset, .unset] [(.ref a_RENEW), (.int (2 : Int32)), (.ref b1), (.ref b1)])) rfl rfl (hb hby at_22)
  have V10 : Arv Z h10 b1 k1 (.object "com/example/hornbill/hornbill/metrics/StoreOperation") (19 : Int32) [(.ref a_ACQUIRE), (.ref a_ACQUIRE_WAITING), (.ref a_RENEW), .null, .null, .null, .null, .null, .null, .null, .null, .null, .null, .null, .null, .null, .null, .null, .null] .null := (Arv.set Ar9 q9 S9 NN9 HH9 GG9 rfl W10 2 rfl (Nat.le_of_ble_eq_true rfl))
  have Z10 : n0 ≤ h10.size := Nat.le_trans Z7 (Keep.of_wr W10).1
  have N10 := Fr.snoc X10 N7 g_b1
  have K10 : Keep h0 h10 [] := K7.wr W10 (Or.inr sz_b1)
  obtain ⟨T11, X11, e11, st11⟩ := getS2 X10 hx hZ hown (host := "") (Or.inl (hw _ (List.mem_of_getElem? (i := 10) rfl))) Via.refl e10 (own_sta_keep S_RELEASE K10) (g := (mkF m 25 #[.val (.int vx), .unset, .unset, .unset] [(.int (3 : Int32)), (.ref b1), (.ref b1)])) rfl (hb hby at_25)
  obtain ⟨cl12, Ar12, q12, S12, NN12, HH12, GG12⟩ := V10
  have hin12 : ¬ ((3 : Int32) < 0 ∨ cl12.slots.size ≤ ((3 : Int32)).toNatClampNeg) := inb_of S12 ⟨by decide, by decide⟩
  obtain ⟨T13, h13, X13, e13, W13, st13⟩ := stR X11 hx hZ e11 Ar12 (j := (3 : Int32)) hin12 rfl (Sto.ofV Ar12 q12 O1 (Ins.self (E_RELEASE.keep K10))) (g := (mkF m 28 #[.val (.int vx), .unset, .unset, .unset] [(.ref a_RELEASE), (.int (3 : Int32)), (.ref b1), (.ref b1)])) rfl rfl (hb hby at_28)
  have V13 : Arv Z h13 b1 k1 (.object "com/example/hornbill/hornbill/metrics/StoreOperation") (19 : Int32) [(.ref a_ACQUIRE), (.ref a_ACQUIRE_WAITING), (.ref a_RENEW), (.ref a_RELEASE), .null, .null, .null, .null, .null, .null, .null, .null, .null, .null, .null, .null, .null, .null, .null] .null := (Arv.set Ar12 q12 S12 NN12 HH12 GG12 rfl W13 3 rfl (Nat.le_of_ble_eq_true rfl))
  have Z13 : n0 ≤ h13.size := Nat.le_trans Z10 (Keep.of_wr W13).1
  have N13 := Fr.snoc X13 N10 g_b1
  have K13 : Keep h0 h13 [] := K10.wr W13 (Or.inr sz_b1)
  obtain ⟨T14, X14, e14, st14⟩ := getS2 X13 hx hZ hown (host := "") (Or.inl (hw _ (List.mem_of_getElem? (i := 12) rfl))) Via.refl e13 (own_sta_keep S_REVOKE K13) (g := (mkF m 31 #[.val (.int vx), .unset, .unset, .unset] [(.int (4 : Int32)), (.ref b1), (.ref b1)])) rfl (hb hby at_31)
  obtain ⟨cl15, Ar15, q15, S15, NN15, HH15, GG15⟩ := V13
  have hin15 : ¬ ((4 : Int32) < 0 ∨ cl15.slots.size ≤ ((4 : Int32)).toNatClampNeg) := inb_of S15 ⟨by decide, by decide⟩
  obtain ⟨T16, h16, X16, e16, W16, st16⟩ := stR X14 hx hZ e14 Ar15 (j := (4 : Int32)) hin15 rfl (Sto.ofV Ar15 q15 O1 (Ins.self (E_REVOKE.keep K13))) (g := (mkF m 34 #[.val (.int vx), .unset, .unset, .unset] [(.ref a_REVOKE), (.int (4 : Int32)), (.ref b1), (.ref b1)])) rfl rfl (hb hby at_34)
  have V16 : Arv Z h16 b1 k1 (.object "com/example/hornbill/hornbill/metrics/StoreOperation") (19 : Int32) [(.ref a_ACQUIRE), (.ref a_ACQUIRE_WAITING), (.ref a_RENEW), (.ref a_RELEASE), (.ref a_REVOKE), .null, .null, .null, .null, .null, .null, .null, .null, .null, .null, .null, .null, .null, .null] .null := (Arv.set Ar15 q15 S15 NN15 HH15 GG15 rfl W16 4 rfl (Nat.le_of_ble_eq_true rfl))
  have Z16 : n0 ≤ h16.size := Nat.le_trans Z13 (Keep.of_wr W16).1
  have N16 := Fr.snoc X16 N13 g_b1
  have K16 : Keep h0 h16 [] := K13.wr W16 (Or.inr sz_b1)
  obtain ⟨T17, X17, e17, st17⟩ := getS2 X16 hx hZ hown (host := "") (Or.inl (hw _ (List.mem_of_getElem? (i := 14) rfl))) Via.refl e16 (own_sta_keep S_RENEW_ON_ACCESS K16) (g := (mkF m 37 #[.val (.int vx), .unset, .unset, .unset] [(.int (5 : Int32)), (.ref b1), (.ref b1)])) rfl (hb hby at_37)
  obtain ⟨cl18, Ar18, q18, S18, NN18, HH18, GG18⟩ := V16
  have hin18 : ¬ ((5 : Int32) < 0 ∨ cl18.slots.size ≤ ((5 : Int32)).toNatClampNeg) := inb_of S18 ⟨by decide, by decide⟩
  obtain ⟨T19, h19, X19, e19, W19, st19⟩ := stR X17 hx hZ e17 Ar18 (j := (5 : Int32)) hin18 rfl (Sto.ofV Ar18 q18 O1 (Ins.self (E_RENEW_ON_ACCESS.keep K16))) (g := (mkF m 40 #[.val (.int vx), .unset, .unset, .unset] [(.ref a_RENEW_ON_ACCESS), (.int (5 : Int32)), (.ref b1), (.ref b1)])) rfl rfl (hb hby at_40)
  have V19 : Arv Z h19 b1 k1 (.object "com/example/hornbill/hornbill/metrics/StoreOperation") (19 : Int32) [(.ref a_ACQUIRE), (.ref a_ACQUIRE_WAITING), (.ref a_RENEW), (.ref a_RELEASE), (.ref a_REVOKE), (.ref a_RENEW_ON_ACCESS), .null, .null, .null, .null, .null, .null, .null, .null, .null, .null, .null, .null, .null] .null := (Arv.set Ar18 q18 S18 NN18 HH18 GG18 rfl W19 5 rfl (Nat.le_of_ble_eq_true rfl))
  have Z19 : n0 ≤ h19.size := Nat.le_trans Z16 (Keep.of_wr W19).1
  have N19 := Fr.snoc X19 N16 g_b1
  have K19 : Keep h0 h19 [] := K16.wr W19 (Or.inr sz_b1)
  obtain ⟨T20, X20, e20, st20⟩ := getS2 X19 hx hZ hown (host := "") (Or.inl (hw _ (List.mem_of_getElem? (i := 16) rfl))) Via.refl e19 (own_sta_keep S_FENCE K19) (g := (mkF m 44 #[.val (.int vx), .unset, .unset, .unset] [(.int (6 : Int32)), (.ref b1), (.ref b1)])) rfl (hb hby at_44)
  obtain ⟨cl21, Ar21, q21, S21, NN21, HH21, GG21⟩ := V19
  have hin21 : ¬ ((6 : Int32) < 0 ∨ cl21.slots.size ≤ ((6 : Int32)).toNatClampNeg) := inb_of S21 ⟨by decide, by decide⟩
  obtain ⟨T22, h22, X22, e22, W22, st22⟩ := stR X20 hx hZ e20 Ar21 (j := (6 : Int32)) hin21 rfl (Sto.ofV Ar21 q21 O1 (Ins.self (E_FENCE.keep K19))) (g := (mkF m 47 #[.val (.int vx), .unset, .unset, .unset] [(.ref a_FENCE), (.int (6 : Int32)), (.ref b1), (.ref b1)])) rfl rfl (hb hby at_47)
  have V22 : Arv Z h22 b1 k1 (.object "com/example/hornbill/hornbill/metrics/StoreOperation") (19 : Int32) [(.ref a_ACQUIRE), (.ref a_ACQUIRE_WAITING), (.ref a_RENEW), (.ref a_RELEASE), (.ref a_REVOKE), (.ref a_RENEW_ON_ACCESS), (.ref a_FENCE), .null, .null, .null, .null, .null, .null, .null, .null, .null, .null, .null, .null] .null := (Arv.set Ar21 q21 S21 NN21 HH21 GG21 rfl W22 6 rfl (Nat.le_of_ble_eq_true rfl))
  have Z22 : n0 ≤ h22.size := Nat.le_trans Z19 (Keep.of_wr W22).1
  have N22 := Fr.snoc X22 N19 g_b1
  have K22 : Keep h0 h22 [] := K19.wr W22 (Or.inr sz_b1)
  obtain ⟨T23, X23, e23, st23⟩ := getS2 X22 hx hZ hown (host := "") (Or.inl (hw _ (List.mem_of_getElem? (i := 18) rfl))) Via.refl e22 (own_sta_keep S_SHOW K22) (g := (mkF m 51 #[.val (.int vx), .unset, .unset, .unset] [(.int (7 : Int32)), (.ref b1), (.ref b1)])) rfl (hb hby at_51)
  obtain ⟨cl24, Ar24, q24, S24, NN24, HH24, GG24⟩ := V22
  have hin24 : ¬ ((7 : Int32) < 0 ∨ cl24.slots.size ≤ ((7 : Int32)).toNatClampNeg) := inb_of S24 ⟨by decide, by decide⟩
  obtain ⟨T25, h25, X25, e25, W25, st25⟩ := stR X23 hx hZ e23 Ar24 (j := (7 : Int32)) hin24 rfl (Sto.ofV Ar24 q24 O1 (Ins.self (E_SHOW.keep K22))) (g := (mkF m 54 #[.val (.int vx), .unset, .unset, .unset] [(.ref a_SHOW), (.int (7 : Int32)), (.ref b1), (.ref b1)])) rfl rfl (hb hby at_54)
  have V25 : Arv Z h25 b1 k1 (.object "com/example/hornbill/hornbill/metrics/StoreOperation") (19 : Int32) [(.ref a_ACQUIRE), (.ref a_ACQUIRE_WAITING), (.ref a_RENEW), (.ref a_RELEASE), (.ref a_REVOKE), (.ref a_RENEW_ON_ACCESS), (.ref a_FENCE), (.ref a_SHOW), .null, .null, .null, .null, .null, .null, .null, .null, .null, .null, .null] .null := (Arv.set Ar24 q24 S24 NN24 HH24 GG24 rfl W25 7 rfl (Nat.le_of_ble_eq_true rfl))
  have Z25 : n0 ≤ h25.size := Nat.le_trans Z22 (Keep.of_wr W25).1
  have N25 := Fr.snoc X25 N22 g_b1
  have K25 : Keep h0 h25 [] := K22.wr W25 (Or.inr sz_b1)
  obtain ⟨T26, X26, e26, st26⟩ := getS2 X25 hx hZ hown (host := "") (Or.inl (hw _ (List.mem_of_getElem? (i := 20) rfl))) Via.refl e25 (own_sta_keep S_LIST K25) (g := (mkF m 58 #[.val (.int vx), .unset, .unset, .unset] [(.int (8 : Int32)), (.ref b1), (.ref b1)])) rfl (hb hby at_58)
  obtain ⟨cl27, Ar27, q27, S27, NN27, HH27, GG27⟩ := V25
  have hin27 : ¬ ((8 : Int32) < 0 ∨ cl27.slots.size ≤ ((8 : Int32)).toNatClampNeg) := inb_of S27 ⟨by decide, by decide⟩
  obtain ⟨T28, h28, X28, e28, W28, st28⟩ := stR X26 hx hZ e26 Ar27 (j := (8 : Int32)) hin27 rfl (Sto.ofV Ar27 q27 O1 (Ins.self (E_LIST.keep K25))) (g := (mkF m 61 #[.val (.int vx), .unset, .unset, .unset] [(.ref a_LIST), (.int (8 : Int32)), (.ref b1), (.ref b1)])) rfl rfl (hb hby at_61)
  have V28 : Arv Z h28 b1 k1 (.object "com/example/hornbill/hornbill/metrics/StoreOperation") (19 : Int32) [(.ref a_ACQUIRE), (.ref a_ACQUIRE_WAITING), (.ref a_RENEW), (.ref a_RELEASE), (.ref a_REVOKE), (.ref a_RENEW_ON_ACCESS), (.ref a_FENCE), (.ref a_SHOW), (.ref a_LIST), .null, .null, .null, .null, .null, .null, .null, .null, .null, .null] .null := (Arv.set Ar27 q27 S27 NN27 HH27 GG27 rfl W28 8 rfl (Nat.le_of_ble_eq_true rfl))
  have Z28 : n0 ≤ h28.size := Nat.le_trans Z25 (Keep.of_wr W28).1
  have N28 := Fr.snoc X28 N25 g_b1
  have K28 : Keep h0 h28 [] := K25.wr W28 (Or.inr sz_b1)
  obtain ⟨T29, X29, e29, st29⟩ := getS2 X28 hx hZ hown (host := "") (Or.inl (hw _ (List.mem_of_getElem? (i := 22) rfl))) Via.refl e28 (own_sta_keep S_AWAIT_CHANGE K28) (g := (mkF m 65 #[.val (.int vx), .unset, .unset, .unset] [(.int (9 : Int32)), (.ref b1), (.ref b1)])) rfl (hb hby at_65)
  obtain ⟨cl30, Ar30, q30, S30, NN30, HH30, GG30⟩ := V28
  have hin30 : ¬ ((9 : Int32) < 0 ∨ cl30.slots.size ≤ ((9 : Int32)).toNatClampNeg) := inb_of S30 ⟨by decide, by decide⟩
  obtain ⟨T31, h31, X31, e31, W31, st31⟩ := stR X29 hx hZ e29 Ar30 (j := (9 : Int32)) hin30 rfl (Sto.ofV Ar30 q30 O1 (Ins.self (E_AWAIT_CHANGE.keep K28))) (g := (mkF m 68 #[.val (.int vx), .unset, .unset, .unset] [(.ref a_AWAIT_CHANGE), (.int (9 : Int32)), (.ref b1), (.ref b1)])) rfl rfl (hb hby at_68)
  have V31 : Arv Z h31 b1 k1 (.object "com/example/hornbill/hornbill/metrics/StoreOperation") (19 : Int32) [(.ref a_ACQUIRE), (.ref a_ACQUIRE_WAITING), (.ref a_RENEW), (.ref a_RELEASE), (.ref a_REVOKE), (.ref a_RENEW_ON_ACCESS), (.ref a_FENCE), (.ref a_SHOW), (.ref a_LIST), (.ref a_AWAIT_CHANGE), .null, .null, .null, .null, .null, .null, .null, .null, .null] .null := (Arv.set Ar30 q30 S30 NN30 HH30 GG30 rfl W31 9 rfl (Nat.le_of_ble_eq_true rfl))
  have Z31 : n0 ≤ h31.size := Nat.le_trans Z28 (Keep.of_wr W31).1
  have N31 := Fr.snoc X31 N28 g_b1
  have K31 : Keep h0 h31 [] := K28.wr W31 (Or.inr sz_b1)
  obtain ⟨T32, X32, e32, st32⟩ := getS2 X31 hx hZ hown (host := "") (Or.inl (hw _ (List.mem_of_getElem? (i := 24) rfl))) Via.refl e31 (own_sta_keep S_BEGIN K31) (g := (mkF m 72 #[.val (.int vx), .unset, .unset, .unset] [(.int (10 : Int32)), (.ref b1), (.ref b1)])) rfl (hb hby at_72)
  obtain ⟨cl33, Ar33, q33, S33, NN33, HH33, GG33⟩ := V31
  have hin33 : ¬ ((10 : Int32) < 0 ∨ cl33.slots.size ≤ ((10 : Int32)).toNatClampNeg) := inb_of S33 ⟨by decide, by decide⟩
  obtain ⟨T34, h34, X34, e34, W34, st34⟩ := stR X32 hx hZ e32 Ar33 (j := (10 : Int32)) hin33 rfl (Sto.ofV Ar33 q33 O1 (Ins.self (E_BEGIN.keep K31))) (g := (mkF m 75 #[.val (.int vx), .unset, .unset, .unset] [(.ref a_BEGIN), (.int (10 : Int32)), (.ref b1), (.ref b1)])) rfl rfl (hb hby at_75)
  have V34 : Arv Z h34 b1 k1 (.object "com/example/hornbill/hornbill/metrics/StoreOperation") (19 : Int32) [(.ref a_ACQUIRE), (.ref a_ACQUIRE_WAITING), (.ref a_RENEW), (.ref a_RELEASE), (.ref a_REVOKE), (.ref a_RENEW_ON_ACCESS), (.ref a_FENCE), (.ref a_SHOW), (.ref a_LIST), (.ref a_AWAIT_CHANGE), (.ref a_BEGIN), .null, .null, .null, .null, .null, .null, .null, .null] .null := (Arv.set Ar33 q33 S33 NN33 HH33 GG33 rfl W34 10 rfl (Nat.le_of_ble_eq_true rfl))
  have Z34 : n0 ≤ h34.size := Nat.le_trans Z31 (Keep.of_wr W34).1
  have N34 := Fr.snoc X34 N31 g_b1
  have K34 : Keep h0 h34 [] := K31.wr W34 (Or.inr sz_b1)
  obtain ⟨T35, X35, e35, st35⟩ := getS2 X34 hx hZ hown (host := "") (Or.inl (hw _ (List.mem_of_getElem? (i := 26) rfl))) Via.refl e34 (own_sta_keep S_COMMIT K34) (g := (mkF m 79 #[.val (.int vx), .unset, .unset, .unset] [(.int (11 : Int32)), (.ref b1), (.ref b1)])) rfl (hb hby at_79)
  obtain ⟨cl36, Ar36, q36, S36, NN36, HH36, GG36⟩ := V34
  have hin36 : ¬ ((11 : Int32) < 0 ∨ cl36.slots.size ≤ ((11 : Int32)).toNatClampNeg) := inb_of S36 ⟨by decide, by decide⟩
  obtain ⟨T37, h37, X37, e37, W37, st37⟩ := stR X35 hx hZ e35 Ar36 (j := (11 : Int32)) hin36 rfl (Sto.ofV Ar36 q36 O1 (Ins.self (E_COMMIT.keep K34))) (g := (mkF m 82 #[.val (.int vx), .unset, .unset, .unset] [(.ref a_COMMIT), (.int (11 : Int32)), (.ref b1), (.ref b1)])) rfl rfl (hb hby at_82)
  have V37 : Arv Z h37 b1 k1 (.object "com/example/hornbill/hornbill/metrics/StoreOperation") (19 : Int32) [(.ref a_ACQUIRE), (.ref a_ACQUIRE_WAITING), (.ref a_RENEW), (.ref a_RELEASE), (.ref a_REVOKE), (.ref a_RENEW_ON_ACCESS), (.ref a_FENCE), (.ref a_SHOW), (.ref a_LIST), (.ref a_AWAIT_CHANGE), (.ref a_BEGIN), (.ref a_COMMIT), .null, .null, .null, .null, .null, .null, .null] .null := (Arv.set Ar36 q36 S36 NN36 HH36 GG36 rfl W37 11 rfl (Nat.le_of_ble_eq_true rfl))
  have Z37 : n0 ≤ h37.size := Nat.le_trans Z34 (Keep.of_wr W37).1
  have N37 := Fr.snoc X37 N34 g_b1
  have K37 : Keep h0 h37 [] := K34.wr W37 (Or.inr sz_b1)
  obtain ⟨T38, X38, e38, st38⟩ := getS2 X37 hx hZ hown (host := "") (Or.inl (hw _ (List.mem_of_getElem? (i := 28) rfl))) Via.refl e37 (own_sta_keep S_ROLLBACK K37) (g := (mkF m 86 #[.val (.int vx), .unset, .unset, .unset] [(.int (12 : Int32)), (.ref b1), (.ref b1)])) rfl (hb hby at_86)
  obtain ⟨cl39, Ar39, q39, S39, NN39, HH39, GG39⟩ := V37
  have hin39 : ¬ ((12 : Int32) < 0 ∨ cl39.slots.size ≤ ((12 : Int32)).toNatClampNeg) := inb_of S39 ⟨by decide, by decide⟩
  obtain ⟨T40, h40, X40, e40, W40, st40⟩ := stR X38 hx hZ e38 Ar39 (j := (12 : Int32)) hin39 rfl (Sto.ofV Ar39 q39 O1 (Ins.self (E_ROLLBACK.keep K37))) (g := (mkF m 89 #[.val (.int vx), .unset, .unset, .unset] [(.ref a_ROLLBACK), (.int (12 : Int32)), (.ref b1), (.ref b1)])) rfl rfl (hb hby at_89)
  have V40 : Arv Z h40 b1 k1 (.object "com/example/hornbill/hornbill/metrics/StoreOperation") (19 : Int32) [(.ref a_ACQUIRE), (.ref a_ACQUIRE_WAITING), (.ref a_RENEW), (.ref a_RELEASE), (.ref a_REVOKE), (.ref a_RENEW_ON_ACCESS), (.ref a_FENCE), (.ref a_SHOW), (.ref a_LIST), (.ref a_AWAIT_CHANGE), (.ref a_BEGIN), (.ref a_COMMIT), (.ref a_ROLLBACK), .null, .null, .null, .null, .null, .null] .null := (Arv.set Ar39 q39 S39 NN39 HH39 GG39 rfl W40 12 rfl (Nat.le_of_ble_eq_true rfl))
  have Z40 : n0 ≤ h40.size := Nat.le_trans Z37 (Keep.of_wr W40).1
  have N40 := Fr.snoc X40 N37 g_b1
  have K40 : Keep h0 h40 [] := K37.wr W40 (Or.inr sz_b1)
  obtain ⟨T41, X41, e41, st41⟩ := getS2 X40 hx hZ hown (host := "") (Or.inl (hw _ (List.mem_of_getElem? (i := 30) rfl))) Via.refl e40 (own_sta_keep S_SHOW_CLAIM K40) (g := (mkF m 93 #[.val (.int vx), .unset, .unset, .unset] [(.int (13 : Int32)), (.ref b1), (.ref b1)])) rfl (hb hby at_93)
  obtain ⟨cl42, Ar42, q42, S42, NN42, HH42, GG42⟩ := V40
  have hin42 : ¬ ((13 : Int32) < 0 ∨ cl42.slots.size ≤ ((13 : Int32)).toNatClampNeg) := inb_of S42 ⟨by decide, by decide⟩
  obtain ⟨T43, h43, X43, e43, W43, st43⟩ := stR X41 hx hZ e41 Ar42 (j := (13 : Int32)) hin42 rfl (Sto.ofV Ar42 q42 O1 (Ins.self (E_SHOW_CLAIM.keep K40))) (g := (mkF m 96 #[.val (.int vx), .unset, .unset, .unset] [(.ref a_SHOW_CLAIM), (.int (13 : Int32)), (.ref b1), (.ref b1)])) rfl rfl (hb hby at_96)
  have V43 : Arv Z h43 b1 k1 (.object "com/example/hornbill/hornbill/metrics/StoreOperation") (19 : Int32) [(.ref a_ACQUIRE), (.ref a_ACQUIRE_WAITING), (.ref a_RENEW), (.ref a_RELEASE), (.ref a_REVOKE), (.ref a_RENEW_ON_ACCESS), (.ref a_FENCE), (.ref a_SHOW), (.ref a_LIST), (.ref a_AWAIT_CHANGE), (.ref a_BEGIN), (.ref a_COMMIT), (.ref a_ROLLBACK), (.ref a_SHOW_CLAIM), .null, .null, .null, .null, .null] .null := (Arv.set Ar42 q42 S42 NN42 HH42 GG42 rfl W43 13 rfl (Nat.le_of_ble_eq_true rfl))
  have Z43 : n0 ≤ h43.size := Nat.le_trans Z40 (Keep.of_wr W43).1
  have N43 := Fr.snoc X43 N40 g_b1
  have K43 : Keep h0 h43 [] := K40.wr W43 (Or.inr sz_b1)
  obtain ⟨T44, X44, e44, st44⟩ := getS2 X43 hx hZ hown (host := "") (Or.inl (hw _ (List.mem_of_getElem? (i := 32) rfl))) Via.refl e43 (own_sta_keep S_OUTSTANDING K43) (g := (mkF m 100 #[.val (.int vx), .unset, .unset, .unset] [(.int (14 : Int32)), (.ref b1), (.ref b1)])) rfl (hb hby at_100)
  obtain ⟨cl45, Ar45, q45, S45, NN45, HH45, GG45⟩ := V43
  have hin45 : ¬ ((14 : Int32) < 0 ∨ cl45.slots.size ≤ ((14 : Int32)).toNatClampNeg) := inb_of S45 ⟨by decide, by decide⟩
  obtain ⟨T46, h46, X46, e46, W46, st46⟩ := stR X44 hx hZ e44 Ar45 (j := (14 : Int32)) hin45 rfl (Sto.ofV Ar45 q45 O1 (Ins.self (E_OUTSTANDING.keep K43))) (g := (mkF m 103 #[.val (.int vx), .unset, .unset, .unset] [(.ref a_OUTSTANDING), (.int (14 : Int32)), (.ref b1), (.ref b1)])) rfl rfl (hb hby at_103)
  have V46 : Arv Z h46 b1 k1 (.object "com/example/hornbill/hornbill/metrics/StoreOperation") (19 : Int32) [(.ref a_ACQUIRE), (.ref a_ACQUIRE_WAITING), (.ref a_RENEW), (.ref a_RELEASE), (.ref a_REVOKE), (.ref a_RENEW_ON_ACCESS), (.ref a_FENCE), (.ref a_SHOW), (.ref a_LIST), (.ref a_AWAIT_CHANGE), (.ref a_BEGIN), (.ref a_COMMIT), (.ref a_ROLLBACK), (.ref a_SHOW_CLAIM), (.ref a_OUTSTANDING), .null, .null, .null, .null] .null := (Arv.set Ar45 q45 S45 NN45 HH45 GG45 rfl W46 14 rfl (Nat.le_of_ble_eq_true rfl))
  have Z46 : n0 ≤ h46.size := Nat.le_trans Z43 (Keep.of_wr W46).1
  have N46 := Fr.snoc X46 N43 g_b1
  have K46 : Keep h0 h46 [] := K43.wr W46 (Or.inr sz_b1)
  obtain ⟨T47, X47, e47, st47⟩ := getS2 X46 hx hZ hown (host := "") (Or.inl (hw _ (List.mem_of_getElem? (i := 34) rfl))) Via.refl e46 (own_sta_keep S_REQUEST K46) (g := (mkF m 107 #[.val (.int vx), .unset, .unset, .unset] [(.int (15 : Int32)), (.ref b1), (.ref b1)])) rfl (hb hby at_107)
  obtain ⟨cl48, Ar48, q48, S48, NN48, HH48, GG48⟩ := V46
  have hin48 : ¬ ((15 : Int32) < 0 ∨ cl48.slots.size ≤ ((15 : Int32)).toNatClampNeg) := inb_of S48 ⟨by decide, by decide⟩
  obtain ⟨T49, h49, X49, e49, W49, st49⟩ := stR X47 hx hZ e47 Ar48 (j := (15 : Int32)) hin48 rfl (Sto.ofV Ar48 q48 O1 (Ins.self (E_REQUEST.keep K46))) (g := (mkF m 110 #[.val (.int vx), .unset, .unset, .unset] [(.ref a_REQUEST), (.int (15 : Int32)), (.ref b1), (.ref b1)])) rfl rfl (hb hby at_110)
  have V49 : Arv Z h49 b1 k1 (.object "com/example/hornbill/hornbill/metrics/StoreOperation") (19 : Int32) [(.ref a_ACQUIRE), (.ref a_ACQUIRE_WAITING), (.ref a_RENEW), (.ref a_RELEASE), (.ref a_REVOKE), (.ref a_RENEW_ON_ACCESS), (.ref a_FENCE), (.ref a_SHOW), (.ref a_LIST), (.ref a_AWAIT_CHANGE), (.ref a_BEGIN), (.ref a_COMMIT), (.ref a_ROLLBACK), (.ref a_SHOW_CLAIM), (.ref a_OUTSTANDING), (.ref a_REQUEST), .null, .null, .null] .null := (Arv.set Ar48 q48 S48 NN48 HH48 GG48 rfl W49 15 rfl (Nat.le_of_ble_eq_true rfl))
  have Z49 : n0 ≤ h49.size := Nat.le_trans Z46 (Keep.of_wr W49).1
  have N49 := Fr.snoc X49 N46 g_b1
  have K49 : Keep h0 h49 [] := K46.wr W49 (Or.inr sz_b1)
  obtain ⟨T50, X50, e50, st50⟩ := getS2 X49 hx hZ hown (host := "") (Or.inl (hw _ (List.mem_of_getElem? (i := 36) rfl))) Via.refl e49 (own_sta_keep S_LIST_CLAIMS K49) (g := (mkF m 114 #[.val (.int vx), .unset, .unset, .unset] [(.int (16 : Int32)), (.ref b1), (.ref b1)])) rfl (hb hby at_114)
  obtain ⟨cl51, Ar51, q51, S51, NN51, HH51, GG51⟩ := V49
  have hin51 : ¬ ((16 : Int32) < 0 ∨ cl51.slots.size ≤ ((16 : Int32)).toNatClampNeg) := inb_of S51 ⟨by decide, by decide⟩
  obtain ⟨T52, h52, X52, e52, W52, st52⟩ := stR X50 hx hZ e50 Ar51 (j := (16 : Int32)) hin51 rfl (Sto.ofV Ar51 q51 O1 (Ins.self (E_LIST_CLAIMS.keep K49))) (g := (mkF m 117 #[.val (.int vx), .unset, .unset, .unset] [(.ref a_LIST_CLAIMS), (.int (16 : Int32)), (.ref b1), (.ref b1)])) rfl rfl (hb hby at_117)
  have V52 : Arv Z h52 b1 k1 (.object "com/example/hornbill/hornbill/metrics/StoreOperation") (19 : Int32) [(.ref a_ACQUIRE), (.ref a_ACQUIRE_WAITING), (.ref a_RENEW), (.ref a_RELEASE), (.ref a_REVOKE), (.ref a_RENEW_ON_ACCESS), (.ref a_FENCE), (.ref a_SHOW), (.ref a_LIST), (.ref a_AWAIT_CHANGE), (.ref a_BEGIN), (.ref a_COMMIT), (.ref a_ROLLBACK), (.ref a_SHOW_CLAIM), (.ref a_OUTSTANDING), (.ref a_REQUEST), (.ref a_LIST_CLAIMS), .null, .null] .null := (Arv.set Ar51 q51 S51 NN51 HH51 GG51 rfl W52 16 rfl (Nat.le_of_ble_eq_true rfl))
  have Z52 : n0 ≤ h52.size := Nat.le_trans Z49 (Keep.of_wr W52).1
  have N52 := Fr.snoc X52 N49 g_b1
  have K52 : Keep h0 h52 [] := K49.wr W52 (Or.inr sz_b1)
  obtain ⟨T53, X53, e53, st53⟩ := getS2 X52 hx hZ hown (host := "") (Or.inl (hw _ (List.mem_of_getElem? (i := 38) rfl))) Via.refl e52 (own_sta_keep S_PURGE K52) (g := (mkF m 121 #[.val (.int vx), .unset, .unset, .unset] [(.int (17 : Int32)), (.ref b1), (.ref b1)])) rfl (hb hby at_121)
  obtain ⟨cl54, Ar54, q54, S54, NN54, HH54, GG54⟩ := V52
  have hin54 : ¬ ((17 : Int32) < 0 ∨ cl54.slots.size ≤ ((17 : Int32)).toNatClampNeg) := inb_of S54 ⟨by decide, by decide⟩
  obtain ⟨T55, h55, X55, e55, W55, st55⟩ := stR X53 hx hZ e53 Ar54 (j := (17 : Int32)) hin54 rfl (Sto.ofV Ar54 q54 O1 (Ins.self (E_PURGE.keep K52))) (g := (mkF m 124 #[.val (.int vx), .unset, .unset, .unset] [(.ref a_PURGE), (.int (17 : Int32)), (.ref b1), (.ref b1)])) rfl rfl (hb hby at_124)
  have V55 : Arv Z h55 b1 k1 (.object "com/example/hornbill/hornbill/metrics/StoreOperation") (19 : Int32) [(.ref a_ACQUIRE), (.ref a_ACQUIRE_WAITING), (.ref a_RENEW), (.ref a_RELEASE), (.ref a_REVOKE), (.ref a_RENEW_ON_ACCESS), (.ref a_FENCE), (.ref a_SHOW), (.ref a_LIST), (.ref a_AWAIT_CHANGE), (.ref a_BEGIN), (.ref a_COMMIT), (.ref a_ROLLBACK), (.ref a_SHOW_CLAIM), (.ref a_OUTSTANDING), (.ref a_REQUEST), (.ref a_LIST_CLAIMS), (.ref a_PURGE), .null] .null := (Arv.set Ar54 q54 S54 NN54 HH54 GG54 rfl W55 17 rfl (Nat.le_of_ble_eq_true rfl))
  have Z55 : n0 ≤ h55.size := Nat.le_trans Z52 (Keep.of_wr W55).1
  have N55 := Fr.snoc X55 N52 g_b1
  have K55 : Keep h0 h55 [] := K52.wr W55 (Or.inr sz_b1)
  obtain ⟨T56, X56, e56, st56⟩ := getS2 X55 hx hZ hown (host := "") (Or.inl (hw _ (List.mem_of_getElem? (i := 40) rfl))) Via.refl e55 (own_sta_keep S_DROP K55) (g := (mkF m 128 #[.val (.int vx), .unset, .unset, .unset] [(.int (18 : Int32)), (.ref b1), (.ref b1)])) rfl (hb hby at_128)
  obtain ⟨cl57, Ar57, q57, S57, NN57, HH57, GG57⟩ := V55
  have hin57 : ¬ ((18 : Int32) < 0 ∨ cl57.slots.size ≤ ((18 : Int32)).toNatClampNeg) := inb_of S57 ⟨by decide, by decide⟩
  obtain ⟨T58, h58, X58, e58, W58, st58⟩ := stR X56 hx hZ e56 Ar57 (j := (18 : Int32)) hin57 rfl (Sto.ofV Ar57 q57 O1 (Ins.self (E_DROP.keep K55))) (g := (mkF m 131 #[.val (.int vx), .unset, .unset, .unset] [(.ref a_DROP), (.int (18 : Int32)), (.ref b1), (.ref b1)])) rfl rfl (hb hby at_131)
  have V58 : Arv Z h58 b1 k1 (.object "com/example/hornbill/hornbill/metrics/StoreOperation") (19 : Int32) [(.ref a_ACQUIRE), (.ref a_ACQUIRE_WAITING), (.ref a_RENEW), (.ref a_RELEASE), (.ref a_REVOKE), (.ref a_RENEW_ON_ACCESS), (.ref a_FENCE), (.ref a_SHOW), (.ref a_LIST), (.ref a_AWAIT_CHANGE), (.ref a_BEGIN), (.ref a_COMMIT), (.ref a_ROLLBACK), (.ref a_SHOW_CLAIM), (.ref a_OUTSTANDING), (.ref a_REQUEST), (.ref a_LIST_CLAIMS), (.ref a_PURGE), (.ref a_DROP)] .null := (Arv.set Ar57 q57 S57 NN57 HH57 GG57 rfl W58 18 rfl (Nat.le_of_ble_eq_true rfl))
  have Z58 : n0 ≤ h58.size := Nat.le_trans Z55 (Keep.of_wr W58).1
  have N58 := Fr.snoc X58 N55 g_b1
  have K58 : Keep h0 h58 [] := K55.wr W58 (Or.inr sz_b1)
  have pre59 : ∀ t, Steps p.tables e below (T58.setTop (mkF m 141 #[.val (.int vx), .val (.ref b1), .val (.int ((vx &&& (2147483647 : Int32)) % (19 : Int32))), .unset] [])) t → Steps p.tables e below (s₁.setTop (entryFrame m #[(.int vx)] maxLocals)) t := by
    intro t kt
    refine pre0 t ?_
    show Steps p.tables e below (s₁.setTop (mkF m 0 #[.val (.int vx), .unset, .unset, .unset] [])) _
    refine XS.bipush X0.here hx rfl (hb hby at_0) ?_
    show Steps p.tables e below (s₁.setTop (mkF m 2 #[.val (.int vx), .unset, .unset, .unset] [(.int (19 : Int32))])) _
    refine st1 _ ?_
    show Steps p.tables e below (T1.setTop (mkF m 5 #[.val (.int vx), .unset, .unset, .unset] [(.ref b1)])) _
    refine XS.dup X1.here hx rfl (hb hby at_5) rfl rfl ?_
    show Steps p.tables e below (T1.setTop (mkF m 6 #[.val (.int vx), .unset, .unset, .unset] [(.ref b1), (.ref b1)])) _
    refine XS.iconst X1.here hx rfl (hb hby at_6) ?_
    show Steps p.tables e below (T1.setTop (mkF m 7 #[.val (.int vx), .unset, .unset, .unset] [(.int (0 : Int32)), (.ref b1), (.ref b1)])) _
    refine st2 _ ?_
    show Steps p.tables e below (T2.setTop (mkF m 10 #[.val (.int vx), .unset, .unset, .unset] [(.ref a_ACQUIRE), (.int (0 : Int32)), (.ref b1), (.ref b1)])) _
    refine st4 _ ?_
    show Steps p.tables e below (T4.setTop (mkF m 11 #[.val (.int vx), .unset, .unset, .unset] [(.ref b1)])) _
    refine XS.dup X4.here hx rfl (hb hby at_11) rfl rfl ?_
    show Steps p.tables e below (T4.setTop (mkF m 12 #[.val (.int vx), .unset, .unset, .unset] [(.ref b1), (.ref b1)])) _
    refine XS.iconst X4.here hx rfl (hb hby at_12) ?_
    show Steps p.tables e below (T4.setTop (mkF m 13 #[.val (.int vx), .unset, .unset, .unset] [(.int (1 : Int32)), (.ref b1), (.ref b1)])) _
    refine st5 _ ?_
    show Steps p.tables e below (T5.setTop (mkF m 16 #[.val (.int vx), .unset, .unset, .unset] [(.ref a_ACQUIRE_WAITING), (.int (1 : Int32)), (.ref b1), (.ref b1)])) _
    refine st7 _ ?_
    show Steps p.tables e below (T7.setTop (mkF m 17 #[.val (.int vx), .unset, .unset, .unset] [(.ref b1)])) _
    refine XS.dup X7.here hx rfl (hb hby at_17) rfl rfl ?_
    show Steps p.tables e below (T7.setTop (mkF m 18 #[.val (.int vx), .unset, .unset, .unset] [(.ref b1), (.ref b1)])) _
    refine XS.iconst X7.here hx rfl (hb hby at_18) ?_
    show Steps p.tables e below (T7.setTop (mkF m 19 #[.val (.int vx), .unset, .unset, .unset] [(.int (2 : Int32)), (.ref b1), (.ref b1)])) _
    refine st8 _ ?_
    show Steps p.tables e below (T8.setTop (mkF m 22 #[.val (.int vx), .unset, .unset, .unset] [(.ref a_RENEW), (.int (2 : Int32)), (.ref b1), (.ref b1)])) _
    refine st10 _ ?_
    show Steps p.tables e below (T10.setTop (mkF m 23 #[.val (.int vx), .unset, .unset, .unset] [(.ref b1)])) _
    refine XS.dup X10.here hx rfl (hb hby at_23) rfl rfl ?_
    show Steps p.tables e below (T10.setTop (mkF m 24 #[.val (.int vx), .unset, .unset, .unset] [(.ref b1), (.ref b1)])) _
    refine XS.iconst X10.here hx rfl (hb hby at_24) ?_
    show Steps p.tables e below (T10.setTop (mkF m 25 #[.val (.int vx), .unset, .unset, .unset] [(.int (3 : Int32)), (.ref b1), (.ref b1)])) _
    refine st11 _ ?_
    show Steps p.tables e below (T11.setTop (mkF m 28 #[.val (.int vx), .unset, .unset, .unset] [(.ref a_RELEASE), (.int (3 : Int32)), (.ref b1), (.ref b1)])) _
    refine st13 _ ?_
    show Steps p.tables e below (T13.setTop (mkF m 29 #[.val (.int vx), .unset, .unset, .unset] [(.ref b1)])) _
    refine XS.dup X13.here hx rfl (hb hby at_29) rfl rfl ?_
    show Steps p.tables e below (T13.setTop (mkF m 30 #[.val (.int vx), .unset, .unset, .unset] [(.ref b1), (.ref b1)])) _
    refine XS.iconst X13.here hx rfl (hb hby at_30) ?_
    show Steps p.tables e below (T13.setTop (mkF m 31 #[.val (.int vx), .unset, .unset, .unset] [(.int (4 : Int32)), (.ref b1), (.ref b1)])) _
    refine st14 _ ?_
    show Steps p.tables e below (T14.setTop (mkF m 34 #[.val (.int vx), .unset, .unset, .unset] [(.ref a_REVOKE), (.int (4 : Int32)), (.ref b1), (.ref b1)])) _
    refine st16 _ ?_
    show Steps p.tables e below (T16.setTop (mkF m 35 #[.val (.int vx), .unset, .unset, .unset] [(.ref b1)])) _
    refine XS.dup X16.here hx rfl (hb hby at_35) rfl rfl ?_
    show Steps p.tables e below (T16.setTop (mkF m 36 #[.val (.int vx), .unset, .unset, .unset] [(.ref b1), (.ref b1)])) _
    refine XS.iconst X16.here hx rfl (hb hby at_36) ?_
    show Steps p.tables e below (T16.setTop (mkF m 37 #[.val (.int vx), .unset, .unset, .unset] [(.int (5 : Int32)), (.ref b1), (.ref b1)])) _
    refine st17 _ ?_
    show Steps p.tables e below (T17.setTop (mkF m 40 #[.val (.int vx), .unset, .unset, .unset] [(.ref a_RENEW_ON_ACCESS), (.int (5 : Int32)), (.ref b1), (.ref b1)])) _
    refine st19 _ ?_
    show Steps p.tables e below (T19.setTop (mkF m 41 #[.val (.int vx), .unset, .unset, .unset] [(.ref b1)])) _
    refine XS.dup X19.here hx rfl (hb hby at_41) rfl rfl ?_
    show Steps p.tables e below (T19.setTop (mkF m 42 #[.val (.int vx), .unset, .unset, .unset] [(.ref b1), (.ref b1)])) _
    refine XS.bipush X19.here hx rfl (hb hby at_42) ?_
    show Steps p.tables e below (T19.setTop (mkF m 44 #[.val (.int vx), .unset, .unset, .unset] [(.int (6 : Int32)), (.ref b1), (.ref b1)])) _
    refine st20 _ ?_
    show Steps p.tables e below (T20.setTop (mkF m 47 #[.val (.int vx), .unset, .unset, .unset] [(.ref a_FENCE), (.int (6 : Int32)), (.ref b1), (.ref b1)])) _
    refine st22 _ ?_
    show Steps p.tables e below (T22.setTop (mkF m 48 #[.val (.int vx), .unset, .unset, .unset] [(.ref b1)])) _
    refine XS.dup X22.here hx rfl (hb hby at_48) rfl rfl ?_
    show Steps p.tables e below (T22.setTop (mkF m 49 #[.val (.int vx), .unset, .unset, .unset] [(.ref b1), (.ref b1)])) _
    refine XS.bipush X22.here hx rfl (hb hby at_49) ?_
    show Steps p.tables e below (T22.setTop (mkF m 51 #[.val (.int vx), .unset, .unset, .unset] [(.int (7 : Int32)), (.ref b1), (.ref b1)])) _
    refine st23 _ ?_
    show Steps p.tables e below (T23.setTop (mkF m 54 #[.val (.int vx), .unset, .unset, .unset] [(.ref a_SHOW), (.int (7 : Int32)), (.ref b1), (.ref b1)])) _
    refine st25 _ ?_
    show Steps p.tables e below (T25.setTop (mkF m 55 #[.val (.int vx), .unset, .unset, .unset] [(.ref b1)])) _
    refine XS.dup X25.here hx rfl (hb hby at_55) rfl rfl ?_
    show Steps p.tables e below (T25.setTop (mkF m 56 #[.val (.int vx), .unset, .unset, .unset] [(.ref b1), (.ref b1)])) _
    refine XS.bipush X25.here hx rfl (hb hby at_56) ?_
    show Steps p.tables e below (T25.setTop (mkF m 58 #[.val (.int vx), .unset, .unset, .unset] [(.int (8 : Int32)), (.ref b1), (.ref b1)])) _
    refine st26 _ ?_
    show Steps p.tables e below (T26.setTop (mkF m 61 #[.val (.int vx), .unset, .unset, .unset] [(.ref a_LIST), (.int (8 : Int32)), (.ref b1), (.ref b1)])) _
    refine st28 _ ?_
    show Steps p.tables e below (T28.setTop (mkF m 62 #[.val (.int vx), .unset, .unset, .unset] [(.ref b1)])) _
    refine XS.dup X28.here hx rfl (hb hby at_62) rfl rfl ?_
    show Steps p.tables e below (T28.setTop (mkF m 63 #[.val (.int vx), .unset, .unset, .unset] [(.ref b1), (.ref b1)])) _
    refine XS.bipush X28.here hx rfl (hb hby at_63) ?_
    show Steps p.tables e below (T28.setTop (mkF m 65 #[.val (.int vx), .unset, .unset, .unset] [(.int (9 : Int32)), (.ref b1), (.ref b1)])) _
    refine st29 _ ?_
    show Steps p.tables e below (T29.setTop (mkF m 68 #[.val (.int vx), .unset, .unset, .unset] [(.ref a_AWAIT_CHANGE), (.int (9 : Int32)), (.ref b1), (.ref b1)])) _
    refine st31 _ ?_
    show Steps p.tables e below (T31.setTop (mkF m 69 #[.val (.int vx), .unset, .unset, .unset] [(.ref b1)])) _
    refine XS.dup X31.here hx rfl (hb hby at_69) rfl rfl ?_
    show Steps p.tables e below (T31.setTop (mkF m 70 #[.val (.int vx), .unset, .unset, .unset] [(.ref b1), (.ref b1)])) _
    refine XS.bipush X31.here hx rfl (hb hby at_70) ?_
    show Steps p.tables e below (T31.setTop (mkF m 72 #[.val (.int vx), .unset, .unset, .unset] [(.int (10 : Int32)), (.ref b1), (.ref b1)])) _
    refine st32 _ ?_
    show Steps p.tables e below (T32.setTop (mkF m 75 #[.val (.int vx), .unset, .unset, .unset] [(.ref a_BEGIN), (.int (10 : Int32)), (.ref b1), (.ref b1)])) _
    refine st34 _ ?_
    show Steps p.tables e below (T34.setTop (mkF m 76 #[.val (.int vx), .unset, .unset, .unset] [(.ref b1)])) _
    refine XS.dup X34.here hx rfl (hb hby at_76) rfl rfl ?_
    show Steps p.tables e below (T34.setTop (mkF m 77 #[.val (.int vx), .unset, .unset, .unset] [(.ref b1), (.ref b1)])) _
    refine XS.bipush X34.here hx rfl (hb hby at_77) ?_
    show Steps p.tables e below (T34.setTop (mkF m 79 #[.val (.int vx), .unset, .unset, .unset] [(.int (11 : Int32)), (.ref b1), (.ref b1)])) _
    refine st35 _ ?_
    show Steps p.tables e below (T35.setTop (mkF m 82 #[.val (.int vx), .unset, .unset, .unset] [(.ref a_COMMIT), (.int (11 : Int32)), (.ref b1), (.ref b1)])) _
    refine st37 _ ?_
    show Steps p.tables e below (T37.setTop (mkF m 83 #[.val (.int vx), .unset, .unset, .unset] [(.ref b1)])) _
    refine XS.dup X37.here hx rfl (hb hby at_83) rfl rfl ?_
    show Steps p.tables e below (T37.setTop (mkF m 84 #[.val (.int vx), .unset, .unset, .unset] [(.ref b1), (.ref b1)])) _
    refine XS.bipush X37.here hx rfl (hb hby at_84) ?_
    show Steps p.tables e below (T37.setTop (mkF m 86 #[.val (.int vx), .unset, .unset, .unset] [(.int (12 : Int32)), (.ref b1), (.ref b1)])) _
    refine st38 _ ?_
    show Steps p.tables e below (T38.setTop (mkF m 89 #[.val (.int vx), .unset, .unset, .unset] [(.ref a_ROLLBACK), (.int (12 : Int32)), (.ref b1), (.ref b1)])) _
    refine st40 _ ?_
    show Steps p.tables e below (T40.setTop (mkF m 90 #[.val (.int vx), .unset, .unset, .unset] [(.ref b1)])) _
    refine XS.dup X40.here hx rfl (hb hby at_90) rfl rfl ?_
    show Steps p.tables e below (T40.setTop (mkF m 91 #[.val (.int vx), .unset, .unset, .unset] [(.ref b1), (.ref b1)])) _
    refine XS.bipush X40.here hx rfl (hb hby at_91) ?_
    show Steps p.tables e below (T40.setTop (mkF m 93 #[.val (.int vx), .unset, .unset, .unset] [(.int (13 : Int32)), (.ref b1), (.ref b1)])) _
    refine st41 _ ?_
    show Steps p.tables e below (T41.setTop (mkF m 96 #[.val (.int vx), .unset, .unset, .unset] [(.ref a_SHOW_CLAIM), (.int (13 : Int32)), (.ref b1), (.ref b1)])) _
    refine st43 _ ?_
    show Steps p.tables e below (T43.setTop (mkF m 97 #[.val (.int vx), .unset, .unset, .unset] [(.ref b1)])) _
    refine XS.dup X43.here hx rfl (hb hby at_97) rfl rfl ?_
    show Steps p.tables e below (T43.setTop (mkF m 98 #[.val (.int vx), .unset, .unset, .unset] [(.ref b1), (.ref b1)])) _
    refine XS.bipush X43.here hx rfl (hb hby at_98) ?_
    show Steps p.tables e below (T43.setTop (mkF m 100 #[.val (.int vx), .unset, .unset, .unset] [(.int (14 : Int32)), (.ref b1), (.ref b1)])) _
    refine st44 _ ?_
    show Steps p.tables e below (T44.setTop (mkF m 103 #[.val (.int vx), .unset, .unset, .unset] [(.ref a_OUTSTANDING), (.int (14 : Int32)), (.ref b1), (.ref b1)])) _
    refine st46 _ ?_
    show Steps p.tables e below (T46.setTop (mkF m 104 #[.val (.int vx), .unset, .unset, .unset] [(.ref b1)])) _
    refine XS.dup X46.here hx rfl (hb hby at_104) rfl rfl ?_
    show Steps p.tables e below (T46.setTop (mkF m 105 #[.val (.int vx), .unset, .unset, .unset] [(.ref b1), (.ref b1)])) _
    refine XS.bipush X46.here hx rfl (hb hby at_105) ?_
    show Steps p.tables e below (T46.setTop (mkF m 107 #[.val (.int vx), .unset, .unset, .unset] [(.int (15 : Int32)), (.ref b1), (.ref b1)])) _
    refine st47 _ ?_
    show Steps p.tables e below (T47.setTop (mkF m 110 #[.val (.int vx), .unset, .unset, .unset] [(.ref a_REQUEST), (.int (15 : Int32)), (.ref b1), (.ref b1)])) _
    refine st49 _ ?_
    show Steps p.tables e below (T49.setTop (mkF m 111 #[.val (.int vx), .unset, .unset, .unset] [(.ref b1)])) _
    refine XS.dup X49.here hx rfl (hb hby at_111) rfl rfl ?_
    show Steps p.tables e below (T49.setTop (mkF m 112 #[.val (.int vx), .unset, .unset, .unset] [(.ref b1), (.ref b1)])) _
    refine XS.bipush X49.here hx rfl (hb hby at_112) ?_
    show Steps p.tables e below (T49.setTop (mkF m 114 #[.val (.int vx), .unset, .unset, .unset] [(.int (16 : Int32)), (.ref b1), (.ref b1)])) _
    refine st50 _ ?_
    show Steps p.tables e below (T50.setTop (mkF m 117 #[.val (.int vx), .unset, .unset, .unset] [(.ref a_LIST_CLAIMS), (.int (16 : Int32)), (.ref b1), (.ref b1)])) _
    refine st52 _ ?_
    show Steps p.tables e below (T52.setTop (mkF m 118 #[.val (.int vx), .unset, .unset, .unset] [(.ref b1)])) _
    refine XS.dup X52.here hx rfl (hb hby at_118) rfl rfl ?_
    show Steps p.tables e below (T52.setTop (mkF m 119 #[.val (.int vx), .unset, .unset, .unset] [(.ref b1), (.ref b1)])) _
    refine XS.bipush X52.here hx rfl (hb hby at_119) ?_
    show Steps p.tables e below (T52.setTop (mkF m 121 #[.val (.int vx), .unset, .unset, .unset] [(.int (17 : Int32)), (.ref b1), (.ref b1)])) _
    refine st53 _ ?_
    show Steps p.tables e below (T53.setTop (mkF m 124 #[.val (.int vx), .unset, .unset, .unset] [(.ref a_PURGE), (.int (17 : Int32)), (.ref b1), (.ref b1)])) _
    refine st55 _ ?_
    show Steps p.tables e below (T55.setTop (mkF m 125 #[.val (.int vx), .unset, .unset, .unset] [(.ref b1)])) _
    refine XS.dup X55.here hx rfl (hb hby at_125) rfl rfl ?_
    show Steps p.tables e below (T55.setTop (mkF m 126 #[.val (.int vx), .unset, .unset, .unset] [(.ref b1), (.ref b1)])) _
    refine XS.bipush X55.here hx rfl (hb hby at_126) ?_
    show Steps p.tables e below (T55.setTop (mkF m 128 #[.val (.int vx), .unset, .unset, .unset] [(.int (18 : Int32)), (.ref b1), (.ref b1)])) _
    refine st56 _ ?_
    show Steps p.tables e below (T56.setTop (mkF m 131 #[.val (.int vx), .unset, .unset, .unset] [(.ref a_DROP), (.int (18 : Int32)), (.ref b1), (.ref b1)])) _
    refine st58 _ ?_
    show Steps p.tables e below (T58.setTop (mkF m 132 #[.val (.int vx), .unset, .unset, .unset] [(.ref b1)])) _
    refine XS.astoreN X58.here hx rfl (hb hby at_132) rfl rfl (l' := #[.val (.int vx), .val (.ref b1), .unset, .unset]) rfl ?_
    show Steps p.tables e below (T58.setTop (mkF m 133 #[.val (.int vx), .val (.ref b1), .unset, .unset] [])) _
    refine XS.iloadN X58.here hx rfl (hb hby at_133) rfl ?_
    show Steps p.tables e below (T58.setTop (mkF m 134 #[.val (.int vx), .val (.ref b1), .unset, .unset] [(.int vx)])) _
    refine X58.ldcI hx hown (mvT hZ (hw _ (List.mem_of_getElem? (i := 42) rfl))) (g := (mkF m 134 #[.val (.int vx), .val (.ref b1), .unset, .unset] [(.int vx)])) rfl (hb hby at_134) ?_
    show Steps p.tables e below (T58.setTop (mkF m 136 #[.val (.int vx), .val (.ref b1), .unset, .unset] [(.int (2147483647 : Int32)), (.int vx)])) _
    refine XS.iand X58.here hx rfl (hb hby at_136) rfl ?_
    show Steps p.tables e below (T58.setTop (mkF m 137 #[.val (.int vx), .val (.ref b1), .unset, .unset] [(.int (vx &&& (2147483647 : Int32)))])) _
    refine XS.bipush X58.here hx rfl (hb hby at_137) ?_
    show Steps p.tables e below (T58.setTop (mkF m 139 #[.val (.int vx), .val (.ref b1), .unset, .unset] [(.int (19 : Int32)), (.int (vx &&& (2147483647 : Int32)))])) _
    refine iremM X58 hx rfl (hb hby at_139) rfl (by decide) ?_
    show Steps p.tables e below (T58.setTop (mkF m 140 #[.val (.int vx), .val (.ref b1), .unset, .unset] [(.int ((vx &&& (2147483647 : Int32)) % (19 : Int32)))])) _
    refine XS.istoreN X58.here hx rfl (hb hby at_140) rfl (l' := #[.val (.int vx), .val (.ref b1), .val (.int ((vx &&& (2147483647 : Int32)) % (19 : Int32))), .unset]) rfl ?_
    exact kt
  obtain ⟨ii, hii⟩ : ∃ z : Int32, z = ((vx &&& (2147483647 : Int32)) % (19 : Int32)) := ⟨_, rfl⟩
  rw [← hii] at pre59
  have pre60 : ∀ t, Steps p.tables e below (T58.setTop (mkF m 147 #[.val (.int vx), .val (.ref b1), .val (.int ii), .unset] [(.int ((((123776 : Int32).toUInt32 >>> (ii &&& 31).toUInt32).toInt32) &&& (1 : Int32)))])) t → Steps p.tables e below (s₁.setTop (entryFrame m #[(.int vx)] maxLocals)) t := by
    intro t kt
    refine pre59 t ?_
    show Steps p.tables e below (T58.setTop (mkF m 141 #[.val (.int vx), .val (.ref b1), .val (.int ii), .unset] [])) _
    refine X58.ldcI hx hown (mvT hZ (hw _ (List.mem_of_getElem? (i := 43) rfl))) (g := (mkF m 141 #[.val (.int vx), .val (.ref b1), .val (.int ii), .unset] [])) rfl (hb hby at_141) ?_
    show Steps p.tables e below (T58.setTop (mkF m 143 #[.val (.int vx), .val (.ref b1), .val (.int ii), .unset] [(.int (123776 : Int32))])) _
    refine XS.iloadN X58.here hx rfl (hb hby at_143) rfl ?_
    show Steps p.tables e below (T58.setTop (mkF m 144 #[.val (.int vx), .val (.ref b1), .val (.int ii), .unset] [(.int ii), (.int (123776 : Int32))])) _
    refine XS.iushr X58.here hx rfl (hb hby at_144) rfl ?_
    show Steps p.tables e below (T58.setTop (mkF m 145 #[.val (.int vx), .val (.ref b1), .val (.int ii), .unset] [(.int (((123776 : Int32).toUInt32 >>> (ii &&& 31).toUInt32).toInt32))])) _
    refine XS.iconst X58.here hx rfl (hb hby at_145) ?_
    show Steps p.tables e below (T58.setTop (mkF m 146 #[.val (.int vx), .val (.ref b1), .val (.int ii), .unset] [(.int (1 : Int32)), (.int (((123776 : Int32).toUInt32 >>> (ii &&& 31).toUInt32).toInt32))])) _
    refine XS.iand X58.here hx rfl (hb hby at_146) rfl ?_
    exact kt
  by_cases hc61 : ((((123776 : Int32).toUInt32 >>> (ii &&& 31).toUInt32).toInt32) &&& (1 : Int32)) = (0 : Int32)
  ·
    obtain ⟨xa, hxa, hxe, hxr⟩ : ∃ xa : Addr, ([(.ref a_ACQUIRE), (.ref a_ACQUIRE_WAITING), (.ref a_RENEW), (.ref a_RELEASE), (.ref a_REVOKE), (.ref a_RENEW_ON_ACCESS), (.ref a_FENCE), (.ref a_SHOW), (.ref a_LIST), (.ref a_AWAIT_CHANGE), (.ref a_BEGIN), (.ref a_COMMIT), (.ref a_ROLLBACK), (.ref a_SHOW_CLAIM), (.ref a_OUTSTANDING), (.ref a_REQUEST), (.ref a_LIST_CLAIMS), (.ref a_PURGE), (.ref a_DROP)] : List Value).getD ii.toNatClampNeg .null = .ref xa ∧ Exa Z h58 xa "com/example/hornbill/hornbill/metrics/StoreOperation" ∧ (own_reads xa a_SHOW a_LIST a_AWAIT_CHANGE a_SHOW_CLAIM a_OUTSTANDING a_REQUEST a_LIST_CLAIMS) = (0 : Int32) := by
      rcases own_19 hii with qi | qi | qi | qi | qi | qi | qi | qi | qi | qi | qi | qi | qi | qi | qi | qi | qi | qi | qi
      · rw [qi]; exact ⟨a_ACQUIRE, rfl, E_ACQUIRE.keep K58, by rw [own_reads, if_neg (own_ne f_ACQUIRE f_SHOW (by decide)), if_neg (own_ne f_ACQUIRE f_LIST (by decide)), if_neg (own_ne f_ACQUIRE f_AWAIT_CHANGE (by decide)), if_neg (own_ne f_ACQUIRE f_SHOW_CLAIM (by decide)), if_neg (own_ne f_ACQUIRE f_OUTSTANDING (by decide)), if_neg (own_ne f_ACQUIRE f_REQUEST (by decide)), if_neg (own_ne f_ACQUIRE f_LIST_CLAIMS (by decide))]⟩
      · rw [qi]; exact ⟨a_ACQUIRE_WAITING, rfl, E_ACQUIRE_WAITING.keep K58, by rw [own_reads, if_neg (own_ne f_ACQUIRE_WAITING f_SHOW (by decide)), if_neg (own_ne f_ACQUIRE_WAITING f_LIST (by decide)), if_neg (own_ne f_ACQUIRE_WAITING f_AWAIT_CHANGE (by decide)), if_neg (own_ne f_ACQUIRE_WAITING f_SHOW_CLAIM (by decide)), if_neg (own_ne f_ACQUIRE_WAITING f_OUTSTANDING (by decide)), if_neg (own_ne f_ACQUIRE_WAITING f_REQUEST (by decide)), if_neg (own_ne f_ACQUIRE_WAITING f_LIST_CLAIMS (by decide))]⟩
      · rw [qi]; exact ⟨a_RENEW, rfl, E_RENEW.keep K58, by rw [own_reads, if_neg (own_ne f_RENEW f_SHOW (by decide)), if_neg (own_ne f_RENEW f_LIST (by decide)), if_neg (own_ne f_RENEW f_AWAIT_CHANGE (by decide)), if_neg (own_ne f_RENEW f_SHOW_CLAIM (by decide)), if_neg (own_ne f_RENEW f_OUTSTANDING (by decide)), if_neg (own_ne f_RENEW f_REQUEST (by decide)), if_neg (own_ne f_RENEW f_LIST_CLAIMS (by decide))]⟩
      · rw [qi]; exact ⟨a_RELEASE, rfl, E_RELEASE.keep K58, by rw [own_reads, if_neg (own_ne f_RELEASE f_SHOW (by decide)), if_neg (own_ne f_RELEASE f_LIST (by decide)), if_neg (own_ne f_RELEASE f_AWAIT_CHANGE (by decide)), if_neg (own_ne f_RELEASE f_SHOW_CLAIM (by decide)), if_neg (own_ne f_RELEASE f_OUTSTANDING (by decide)), if_neg (own_ne f_RELEASE f_REQUEST (by decide)), if_neg (own_ne f_RELEASE f_LIST_CLAIMS (by decide))]⟩
      · rw [qi]; exact ⟨a_REVOKE, rfl, E_REVOKE.keep K58, by rw [own_reads, if_neg (own_ne f_REVOKE f_SHOW (by decide)), if_neg (own_ne f_REVOKE f_LIST (by decide)), if_neg (own_ne f_REVOKE f_AWAIT_CHANGE (by decide)), if_neg (own_ne f_REVOKE f_SHOW_CLAIM (by decide)), if_neg (own_ne f_REVOKE f_OUTSTANDING (by decide)), if_neg (own_ne f_REVOKE f_REQUEST (by decide)), if_neg (own_ne f_REVOKE f_LIST_CLAIMS (by decide))]⟩
      · rw [qi]; exact ⟨a_RENEW_ON_ACCESS, rfl, E_RENEW_ON_ACCESS.keep K58, by rw [own_reads, if_neg (own_ne f_RENEW_ON_ACCESS f_SHOW (by decide)), if_neg (own_ne f_RENEW_ON_ACCESS f_LIST (by decide)), if_neg (own_ne f_RENEW_ON_ACCESS f_AWAIT_CHANGE (by decide)), if_neg (own_ne f_RENEW_ON_ACCESS f_SHOW_CLAIM (by decide)), if_neg (own_ne f_RENEW_ON_ACCESS f_OUTSTANDING (by decide)), if_neg (own_ne f_RENEW_ON_ACCESS f_REQUEST (by decide)), if_neg (own_ne f_RENEW_ON_ACCESS f_LIST_CLAIMS (by decide))]⟩
      · rw [qi]; exact ⟨a_FENCE, rfl, E_FENCE.keep K58, by rw [own_reads, if_neg (own_ne f_FENCE f_SHOW (by decide)), if_neg (own_ne f_FENCE f_LIST (by decide)), if_neg (own_ne f_FENCE f_AWAIT_CHANGE (by decide)), if_neg (own_ne f_FENCE f_SHOW_CLAIM (by decide)), if_neg (own_ne f_FENCE f_OUTSTANDING (by decide)), if_neg (own_ne f_FENCE f_REQUEST (by decide)), if_neg (own_ne f_FENCE f_LIST_CLAIMS (by decide))]⟩
      · rw [qi] at hc61; exact absurd hc61 (by decide)
      · rw [qi] at hc61; exact absurd hc61 (by decide)
      · rw [qi] at hc61; exact absurd hc61 (by decide)
      · rw [qi]; exact ⟨a_BEGIN, rfl, E_BEGIN.keep K58, by rw [own_reads, if_neg (own_ne f_BEGIN f_SHOW (by decide)), if_neg (own_ne f_BEGIN f_LIST (by decide)), if_neg (own_ne f_BEGIN f_AWAIT_CHANGE (by decide)), if_neg (own_ne f_BEGIN f_SHOW_CLAIM (by decide)), if_neg (own_ne f_BEGIN f_OUTSTANDING (by decide)), if_neg (own_ne f_BEGIN f_REQUEST (by decide)), if_neg (own_ne f_BEGIN f_LIST_CLAIMS (by decide))]⟩
      · rw [qi]; exact ⟨a_COMMIT, rfl, E_COMMIT.keep K58, by rw [own_reads, if_neg (own_ne f_COMMIT f_SHOW (by decide)), if_neg (own_ne f_COMMIT f_LIST (by decide)), if_neg (own_ne f_COMMIT f_AWAIT_CHANGE (by decide)), if_neg (own_ne f_COMMIT f_SHOW_CLAIM (by decide)), if_neg (own_ne f_COMMIT f_OUTSTANDING (by decide)), if_neg (own_ne f_COMMIT f_REQUEST (by decide)), if_neg (own_ne f_COMMIT f_LIST_CLAIMS (by decide))]⟩
      · rw [qi]; exact ⟨a_ROLLBACK, rfl, E_ROLLBACK.keep K58, by rw [own_reads, if_neg (own_ne f_ROLLBACK f_SHOW (by decide)), if_neg (own_ne f_ROLLBACK f_LIST (by decide)), if_neg (own_ne f_ROLLBACK f_AWAIT_CHANGE (by decide)), if_neg (own_ne f_ROLLBACK f_SHOW_CLAIM (by decide)), if_neg (own_ne f_ROLLBACK f_OUTSTANDING (by decide)), if_neg (own_ne f_ROLLBACK f_REQUEST (by decide)), if_neg (own_ne f_ROLLBACK f_LIST_CLAIMS (by decide))]⟩
      · rw [qi] at hc61; exact absurd hc61 (by decide)
      · rw [qi] at hc61; exact absurd hc61 (by decide)
      · rw [qi] at hc61; exact absurd hc61 (by decide)
      · rw [qi] at hc61; exact absurd hc61 (by decide)
      · rw [qi]; exact ⟨a_PURGE, rfl, E_PURGE.keep K58, by rw [own_reads, if_neg (own_ne f_PURGE f_SHOW (by decide)), if_neg (own_ne f_PURGE f_LIST (by decide)), if_neg (own_ne f_PURGE f_AWAIT_CHANGE (by decide)), if_neg (own_ne f_PURGE f_SHOW_CLAIM (by decide)), if_neg (own_ne f_PURGE f_OUTSTANDING (by decide)), if_neg (own_ne f_PURGE f_REQUEST (by decide)), if_neg (own_ne f_PURGE f_LIST_CLAIMS (by decide))]⟩
      · rw [qi]; exact ⟨a_DROP, rfl, E_DROP.keep K58, by rw [own_reads, if_neg (own_ne f_DROP f_SHOW (by decide)), if_neg (own_ne f_DROP f_LIST (by decide)), if_neg (own_ne f_DROP f_AWAIT_CHANGE (by decide)), if_neg (own_ne f_DROP f_SHOW_CLAIM (by decide)), if_neg (own_ne f_DROP f_OUTSTANDING (by decide)), if_neg (own_ne f_DROP f_REQUEST (by decide)), if_neg (own_ne f_DROP f_LIST_CLAIMS (by decide))]⟩
    have hib : ¬ ii < 0 ∧ ii < (19 : Int32) := by
      rcases own_19 hii with qi | qi | qi | qi | qi | qi | qi | qi | qi | qi | qi | qi | qi | qi | qi | qi | qi | qi | qi <;> (rw [qi]; decide)
    obtain ⟨cl62, Ar62, q62, S62, NN62, HH62, GG62⟩ := V58
    have hin62 : ¬ (ii < 0 ∨ cl62.slots.size ≤ (ii).toNatClampNeg) := inb_of S62 hib
    have hat62 : cl62.slots[(ii).toNatClampNeg]? = some (.ref xa) := HH62.at hin62 hxa
    obtain ⟨cq63, kq63, q63a, q63b, q63c⟩ := isOf hZ e58 hxe
    obtain ⟨_, _, ⟨T63, L63, k63, n63⟩, -, X63, ⟨Lc63, hQ63, l63, y63, z63⟩, st63⟩ := X58.virtualBack hx (y := (⟨"com/example/hornbill/hornbill/metrics/StoreOperation", "reads", "()Z"⟩ : MethodName)) (z := (⟨"com/example/hornbill/hornbill/metrics/StoreOperation", "reads", "()Z"⟩ : MethodName)) hown (mvT hZ (hw _ (List.mem_of_getElem? (i := 44) rfl))) (mvT hZ (hw _ (List.mem_of_getElem? (i := 45) rfl))) (notFace_of_selects (args := #[]) (mvT hZ (hw _ (List.mem_of_getElem? (i := 47) rfl)))) (mvT hZ (hw _ (List.mem_of_getElem? (i := 47) rfl))) (mvT hZ (hw _ (List.mem_of_getElem? (i := 46) rfl))) (by decide) (backOf (W := 0) (rm1 l Z a0 hw [] xa a_SHOW a_LIST a_AWAIT_CHANGE a_SHOW_CLAIM a_OUTSTANDING a_REQUEST a_LIST_CLAIMS h58 n0 Z58 (own_sta_keep S_SHOW K58) (own_sta_keep S_LIST K58) (own_sta_keep S_AWAIT_CHANGE K58) (own_sta_keep S_SHOW_CLAIM K58) (own_sta_keep S_OUTSTANDING K58) (own_sta_keep S_REQUEST K58) (own_sta_keep S_LIST_CLAIMS K58)) hZ (hw _ (List.mem_of_getElem? (i := 48) rfl)) (hw _ (List.mem_of_getElem? (i := 3) rfl)) (by decide) (by decide)) q63a q63c (g := (mkF m 159 #[.val (.int vx), .val (.ref b1), .val (.int ii), .val (.int (0 : Int32))] [(.ref xa)])) rfl (by rw [hml]; rfl) (Steps.refl _) (argsL := []) (rest := []) (lenOf pd_0 rfl) rfl (by show 2 * 0 + _ ≤ _; exact Nat.le_of_eq rfl) (hb hby at_159) (fun _ _ => ⟨rfl, e58, (by decide : 1 + 0 ≤ _), (by decide : 19 + 0 ≤ _)⟩)
    dsimp only [Pt.U, Pt.locs, Pt.cells, Pt.slots] at X63 l63 y63 z63 st63 hQ63
    subst l63 y63 z63
    obtain ⟨rfl, N63q, e63q⟩ := hQ63
    have N63 := Fr.app N58 N63q
    obtain ⟨fs, hr, hrun, hended, hW, hsame⟩ := X63.leave (v := some (.int (1 : Int32))) (fun h => by rw [Bd.returns] at h; cases h)
    refine ⟨_, _, pre60 _ ?_, hrun, hended, _, _, rfl, ?_, ⟨_, rfl⟩, hW, hsame.mono (by decide) (by decide)⟩
    ·
      show Steps p.tables e below (T58.setTop (mkF m 147 #[.val (.int vx), .val (.ref b1), .val (.int ii), .unset] [(.int ((((123776 : Int32).toUInt32 >>> (ii &&& 31).toUInt32).toInt32) &&& (1 : Int32)))])) _
      refine XS.ifYes X58.here hx rfl (pc0 := 147) (pc' := 154) rfl (hb hby at_147) rfl ((if0 _ _).trans (teq (hc61 : ((((123776 : Int32).toUInt32 >>> (ii &&& 31).toUInt32).toInt32) &&& (1 : Int32)) = (0 : Int32))).1) (by decide) (by decide) ?_
      show Steps p.tables e below (T58.setTop (mkF m 154 #[.val (.int vx), .val (.ref b1), .val (.int ii), .unset] [])) _
      refine XS.iconst X58.here hx rfl (hb hby at_154) ?_
      show Steps p.tables e below (T58.setTop (mkF m 155 #[.val (.int vx), .val (.ref b1), .val (.int ii), .unset] [(.int (0 : Int32))])) _
      refine XS.istoreN X58.here hx rfl (hb hby at_155) rfl (l' := #[.val (.int vx), .val (.ref b1), .val (.int ii), .val (.int (0 : Int32))]) rfl ?_
      show Steps p.tables e below (T58.setTop (mkF m 156 #[.val (.int vx), .val (.ref b1), .val (.int ii), .val (.int (0 : Int32))] [])) _
      refine XS.aloadN X58.here hx rfl (hb hby at_156) rfl rfl ?_
      show Steps p.tables e below (T58.setTop (mkF m 157 #[.val (.int vx), .val (.ref b1), .val (.int ii), .val (.int (0 : Int32))] [(.ref b1)])) _
      refine XS.iloadN X58.here hx rfl (hb hby at_157) rfl ?_
      show Steps p.tables e below (T58.setTop (mkF m 158 #[.val (.int vx), .val (.ref b1), .val (.int ii), .val (.int (0 : Int32))] [(.int ii), (.ref b1)])) _
      refine X58.aaload hx (j := ii) (v := (.ref xa)) (by rw [e58]; exact Ar62.1) (State.isArrayOf_alike hZ.alike Ar62.2.1) rfl Ar62.2.2 hin62 hat62 (g := (mkF m 158 #[.val (.int vx), .val (.ref b1), .val (.int ii), .val (.int (0 : Int32))] [(.int ii), (.ref b1)])) rfl rfl (hb hby at_158) _ ?_
      show Steps p.tables e below (T58.setTop (mkF m 159 #[.val (.int vx), .val (.ref b1), .val (.int ii), .val (.int (0 : Int32))] [(.ref xa)])) _
      refine st63.trans ?_
      show Steps p.tables e below (T63.setTop (mkF m 162 #[.val (.int vx), .val (.ref b1), .val (.int ii), .val (.int (0 : Int32))] [(.int (own_reads xa a_SHOW a_LIST a_AWAIT_CHANGE a_SHOW_CLAIM a_OUTSTANDING a_REQUEST a_LIST_CLAIMS))])) _
      refine XS.iloadN X63.here hx rfl (hb hby at_162) rfl ?_
      show Steps p.tables e below (T63.setTop (mkF m 163 #[.val (.int vx), .val (.ref b1), .val (.int ii), .val (.int (0 : Int32))] [(.int (0 : Int32)), (.int (own_reads xa a_SHOW a_LIST a_AWAIT_CHANGE a_SHOW_CLAIM a_OUTSTANDING a_REQUEST a_LIST_CLAIMS))])) _
      refine XS.icmpNo X63.here hx rfl (hb hby at_163) rfl (teq (hxr : (own_reads xa a_SHOW a_LIST a_AWAIT_CHANGE a_SHOW_CLAIM a_OUTSTANDING a_REQUEST a_LIST_CLAIMS) = (0 : Int32))).2 ?_
      show Steps p.tables e below (T63.setTop (mkF m 166 #[.val (.int vx), .val (.ref b1), .val (.int ii), .val (.int (0 : Int32))] [])) _
      refine XS.iconst X63.here hx rfl (hb hby at_166) ?_
      show Steps p.tables e below (T63.setTop (mkF m 167 #[.val (.int vx), .val (.ref b1), .val (.int ii), .val (.int (0 : Int32))] [(.int (1 : Int32))])) _
      refine XS.goto X63.here hx rfl (pc0 := 167) (pc' := 171) rfl (hb hby at_167) (by decide) (by decide) ?_
      show Steps p.tables e below (T63.setTop (mkF m 171 #[.val (.int vx), .val (.ref b1), .val (.int ii), .val (.int (0 : Int32))] [(.int (1 : Int32))])) _
      exact retN X63 hx (t := .boolean) Bd.returns (by simp) (hb hby at_171) hr
    ·
      show Q0 Z vx a_ACQUIRE a_ACQUIRE_WAITING a_RENEW a_RELEASE a_REVOKE a_RENEW_ON_ACCESS a_FENCE a_SHOW a_LIST a_AWAIT_CHANGE a_BEGIN a_COMMIT a_ROLLBACK a_SHOW_CLAIM a_OUTSTANDING a_REQUEST a_LIST_CLAIMS a_PURGE a_DROP fo h0 n0 _ T63.heap _
      rw [e63q]
      exact ⟨rfl, N63⟩
  ·
    obtain ⟨xa, hxa, hxe, hxr⟩ : ∃ xa : Addr, ([(.ref a_ACQUIRE), (.ref a_ACQUIRE_WAITING), (.ref a_RENEW), (.ref a_RELEASE), (.ref a_REVOKE), (.ref a_RENEW_ON_ACCESS), (.ref a_FENCE), (.ref a_SHOW), (.ref a_LIST), (.ref a_AWAIT_CHANGE), (.ref a_BEGIN), (.ref a_COMMIT), (.ref a_ROLLBACK), (.ref a_SHOW_CLAIM), (.ref a_OUTSTANDING), (.ref a_REQUEST), (.ref a_LIST_CLAIMS), (.ref a_PURGE), (.ref a_DROP)] : List Value).getD ii.toNatClampNeg .null = .ref xa ∧ Exa Z h58 xa "com/example/hornbill/hornbill/metrics/StoreOperation" ∧ (own_reads xa a_SHOW a_LIST a_AWAIT_CHANGE a_SHOW_CLAIM a_OUTSTANDING a_REQUEST a_LIST_CLAIMS) = (1 : Int32) := by
      rcases own_19 hii with qi | qi | qi | qi | qi | qi | qi | qi | qi | qi | qi | qi | qi | qi | qi | qi | qi | qi | qi
      · rw [qi] at hc61; exact absurd (by decide) hc61
      · rw [qi] at hc61; exact absurd (by decide) hc61
      · rw [qi] at hc61; exact absurd (by decide) hc61
      · rw [qi] at hc61; exact absurd (by decide) hc61
      · rw [qi] at hc61; exact absurd (by decide) hc61
      · rw [qi] at hc61; exact absurd (by decide) hc61
      · rw [qi] at hc61; exact absurd (by decide) hc61
      · rw [qi]; exact ⟨a_SHOW, rfl, E_SHOW.keep K58, by rw [own_reads, if_pos rfl]⟩
      · rw [qi]; exact ⟨a_LIST, rfl, E_LIST.keep K58, by rw [own_reads, if_neg (own_ne f_LIST f_SHOW (by decide)), if_pos rfl]⟩
      · rw [qi]; exact ⟨a_AWAIT_CHANGE, rfl, E_AWAIT_CHANGE.keep K58, by rw [own_reads, if_neg (own_ne f_AWAIT_CHANGE f_SHOW (by decide)), if_neg (own_ne f_AWAIT_CHANGE f_LIST (by decide)), if_pos rfl]⟩
      · rw [qi] at hc61; exact absurd (by decide) hc61
      · rw [qi] at hc61; exact absurd (by decide) hc61
      · rw [qi] at hc61; exact absurd (by decide) hc61
      · rw [qi]; exact ⟨a_SHOW_CLAIM, rfl, E_SHOW_CLAIM.keep K58, by rw [own_reads, if_neg (own_ne f_SHOW_CLAIM f_SHOW (by decide)), if_neg (own_ne f_SHOW_CLAIM f_LIST (by decide)), if_neg (own_ne f_SHOW_CLAIM f_AWAIT_CHANGE (by decide)), if_pos rfl]⟩
      · rw [qi]; exact ⟨a_OUTSTANDING, rfl, E_OUTSTANDING.keep K58, by rw [own_reads, if_neg (own_ne f_OUTSTANDING f_SHOW (by decide)), if_neg (own_ne f_OUTSTANDING f_LIST (by decide)), if_neg (own_ne f_OUTSTANDING f_AWAIT_CHANGE (by decide)), if_neg (own_ne f_OUTSTANDING f_SHOW_CLAIM (by decide)), if_pos rfl]⟩
      · rw [qi]; exact ⟨a_REQUEST, rfl, E_REQUEST.keep K58, by rw [own_reads, if_neg (own_ne f_REQUEST f_SHOW (by decide)), if_neg (own_ne f_REQUEST f_LIST (by decide)), if_neg (own_ne f_REQUEST f_AWAIT_CHANGE (by decide)), if_neg (own_ne f_REQUEST f_SHOW_CLAIM (by decide)), if_neg (own_ne f_REQUEST f_OUTSTANDING (by decide)), if_pos rfl]⟩
      · rw [qi]; exact ⟨a_LIST_CLAIMS, rfl, E_LIST_CLAIMS.keep K58, by rw [own_reads, if_neg (own_ne f_LIST_CLAIMS f_SHOW (by decide)), if_neg (own_ne f_LIST_CLAIMS f_LIST (by decide)), if_neg (own_ne f_LIST_CLAIMS f_AWAIT_CHANGE (by decide)), if_neg (own_ne f_LIST_CLAIMS f_SHOW_CLAIM (by decide)), if_neg (own_ne f_LIST_CLAIMS f_OUTSTANDING (by decide)), if_neg (own_ne f_LIST_CLAIMS f_REQUEST (by decide)), if_pos rfl]⟩
      · rw [qi] at hc61; exact absurd (by decide) hc61
      · rw [qi] at hc61; exact absurd (by decide) hc61
    have hib : ¬ ii < 0 ∧ ii < (19 : Int32) := by
      rcases own_19 hii with qi | qi | qi | qi | qi | qi | qi | qi | qi | qi | qi | qi | qi | qi | qi | qi | qi | qi | qi <;> (rw [qi]; decide)
    obtain ⟨cl64, Ar64, q64, S64, NN64, HH64, GG64⟩ := V58
    have hin64 : ¬ (ii < 0 ∨ cl64.slots.size ≤ (ii).toNatClampNeg) := inb_of S64 hib
    have hat64 : cl64.slots[(ii).toNatClampNeg]? = some (.ref xa) := HH64.at hin64 hxa
    obtain ⟨cq65, kq65, q65a, q65b, q65c⟩ := isOf hZ e58 hxe
    obtain ⟨_, _, ⟨T65, L65, k65, n65⟩, -, X65, ⟨Lc65, hQ65, l65, y65, z65⟩, st65⟩ := X58.virtualBack hx (y := (⟨"com/example/hornbill/hornbill/metrics/StoreOperation", "reads", "()Z"⟩ : MethodName)) (z := (⟨"com/example/hornbill/hornbill/metrics/StoreOperation", "reads", "()Z"⟩ : MethodName)) hown (mvT hZ (hw _ (List.mem_of_getElem? (i := 44) rfl))) (mvT hZ (hw _ (List.mem_of_getElem? (i := 45) rfl))) (notFace_of_selects (args := #[]) (mvT hZ (hw _ (List.mem_of_getElem? (i := 47) rfl)))) (mvT hZ (hw _ (List.mem_of_getElem? (i := 47) rfl))) (mvT hZ (hw _ (List.mem_of_getElem? (i := 46) rfl))) (by decide) (backOf (W := 0) (rm1 l Z a0 hw [] xa a_SHOW a_LIST a_AWAIT_CHANGE a_SHOW_CLAIM a_OUTSTANDING a_REQUEST a_LIST_CLAIMS h58 n0 Z58 (own_sta_keep S_SHOW K58) (own_sta_keep S_LIST K58) (own_sta_keep S_AWAIT_CHANGE K58) (own_sta_keep S_SHOW_CLAIM K58) (own_sta_keep S_OUTSTANDING K58) (own_sta_keep S_REQUEST K58) (own_sta_keep S_LIST_CLAIMS K58)) hZ (hw _ (List.mem_of_getElem? (i := 48) rfl)) (hw _ (List.mem_of_getElem? (i := 3) rfl)) (by decide) (by decide)) q65a q65c (g := (mkF m 159 #[.val (.int vx), .val (.ref b1), .val (.int ii), .val (.int (1 : Int32))] [(.ref xa)])) rfl (by rw [hml]; rfl) (Steps.refl _) (argsL := []) (rest := []) (lenOf pd_0 rfl) rfl (by show 2 * 0 + _ ≤ _; exact Nat.le_of_eq rfl) (hb hby at_159) (fun _ _ => ⟨rfl, e58, (by decide : 1 + 0 ≤ _), (by decide : 19 + 0 ≤ _)⟩)
    dsimp only [Pt.U, Pt.locs, Pt.cells, Pt.slots] at X65 l65 y65 z65 st65 hQ65
    subst l65 y65 z65
    obtain ⟨rfl, N65q, e65q⟩ := hQ65
    have N65 := Fr.app N58 N65q
    obtain ⟨fs, hr, hrun, hended, hW, hsame⟩ := X65.leave (v := some (.int (1 : Int32))) (fun h => by rw [Bd.returns] at h; cases h)
    refine ⟨_, _, pre60 _ ?_, hrun, hended, _, _, rfl, ?_, ⟨_, rfl⟩, hW, hsame.mono (by decide) (by decide)⟩
    ·
      show Steps p.tables e below (T58.setTop (mkF m 147 #[.val (.int vx), .val (.ref b1), .val (.int ii), .unset] [(.int ((((123776 : Int32).toUInt32 >>> (ii &&& 31).toUInt32).toInt32) &&& (1 : Int32)))])) _
      refine XS.ifNo X58.here hx rfl (hb hby at_147) rfl ((if0 _ _).trans (feq (hc61 : ¬ (((((123776 : Int32).toUInt32 >>> (ii &&& 31).toUInt32).toInt32) &&& (1 : Int32)) = (0 : Int32)))).1) ?_
      show Steps p.tables e below (T58.setTop (mkF m 150 #[.val (.int vx), .val (.ref b1), .val (.int ii), .unset] [])) _
      refine XS.iconst X58.here hx rfl (hb hby at_150) ?_
      show Steps p.tables e below (T58.setTop (mkF m 151 #[.val (.int vx), .val (.ref b1), .val (.int ii), .unset] [(.int (1 : Int32))])) _
      refine XS.goto X58.here hx rfl (pc0 := 151) (pc' := 155) rfl (hb hby at_151) (by decide) (by decide) ?_
      show Steps p.tables e below (T58.setTop (mkF m 155 #[.val (.int vx), .val (.ref b1), .val (.int ii), .unset] [(.int (1 : Int32))])) _
      refine XS.istoreN X58.here hx rfl (hb hby at_155) rfl (l' := #[.val (.int vx), .val (.ref b1), .val (.int ii), .val (.int (1 : Int32))]) rfl ?_
      show Steps p.tables e below (T58.setTop (mkF m 156 #[.val (.int vx), .val (.ref b1), .val (.int ii), .val (.int (1 : Int32))] [])) _
      refine XS.aloadN X58.here hx rfl (hb hby at_156) rfl rfl ?_
      show Steps p.tables e below (T58.setTop (mkF m 157 #[.val (.int vx), .val (.ref b1), .val (.int ii), .val (.int (1 : Int32))] [(.ref b1)])) _
      refine XS.iloadN X58.here hx rfl (hb hby at_157) rfl ?_
      show Steps p.tables e below (T58.setTop (mkF m 158 #[.val (.int vx), .val (.ref b1), .val (.int ii), .val (.int (1 : Int32))] [(.int ii), (.ref b1)])) _
      refine X58.aaload hx (j := ii) (v := (.ref xa)) (by rw [e58]; exact Ar64.1) (State.isArrayOf_alike hZ.alike Ar64.2.1) rfl Ar64.2.2 hin64 hat64 (g := (mkF m 158 #[.val (.int vx), .val (.ref b1), .val (.int ii), .val (.int (1 : Int32))] [(.int ii), (.ref b1)])) rfl rfl (hb hby at_158) _ ?_
      show Steps p.tables e below (T58.setTop (mkF m 159 #[.val (.int vx), .val (.ref b1), .val (.int ii), .val (.int (1 : Int32))] [(.ref xa)])) _
      refine st65.trans ?_
      show Steps p.tables e below (T65.setTop (mkF m 162 #[.val (.int vx), .val (.ref b1), .val (.int ii), .val (.int (1 : Int32))] [(.int (own_reads xa a_SHOW a_LIST a_AWAIT_CHANGE a_SHOW_CLAIM a_OUTSTANDING a_REQUEST a_LIST_CLAIMS))])) _
      refine XS.iloadN X65.here hx rfl (hb hby at_162) rfl ?_
      show Steps p.tables e below (T65.setTop (mkF m 163 #[.val (.int vx), .val (.ref b1), .val (.int ii), .val (.int (1 : Int32))] [(.int (1 : Int32)), (.int (own_reads xa a_SHOW a_LIST a_AWAIT_CHANGE a_SHOW_CLAIM a_OUTSTANDING a_REQUEST a_LIST_CLAIMS))])) _
      refine XS.icmpNo X65.here hx rfl (hb hby at_163) rfl (teq (hxr : (own_reads xa a_SHOW a_LIST a_AWAIT_CHANGE a_SHOW_CLAIM a_OUTSTANDING a_REQUEST a_LIST_CLAIMS) = (1 : Int32))).2 ?_
      show Steps p.tables e below (T65.setTop (mkF m 166 #[.val (.int vx), .val (.ref b1), .val (.int ii), .val (.int (1 : Int32))] [])) _
      refine XS.iconst X65.here hx rfl (hb hby at_166) ?_
      show Steps p.tables e below (T65.setTop (mkF m 167 #[.val (.int vx), .val (.ref b1), .val (.int ii), .val (.int (1 : Int32))] [(.int (1 : Int32))])) _
      refine XS.goto X65.here hx rfl (pc0 := 167) (pc' := 171) rfl (hb hby at_167) (by decide) (by decide) ?_
      show Steps p.tables e below (T65.setTop (mkF m 171 #[.val (.int vx), .val (.ref b1), .val (.int ii), .val (.int (1 : Int32))] [(.int (1 : Int32))])) _
      exact retN X65 hx (t := .boolean) Bd.returns (by simp) (hb hby at_171) hr
    ·
      show Q0 Z vx a_ACQUIRE a_ACQUIRE_WAITING a_RENEW a_RELEASE a_REVOKE a_RENEW_ON_ACCESS a_FENCE a_SHOW a_LIST a_AWAIT_CHANGE a_BEGIN a_COMMIT a_ROLLBACK a_SHOW_CLAIM a_OUTSTANDING a_REQUEST a_LIST_CLAIMS a_PURGE a_DROP fo h0 n0 _ T65.heap _
      rw [e65q]
      exact ⟨rfl, N65⟩
set_option maxRecDepth 65536 in
set_option maxHeartbeats 40000000 in
theorem comes_1 {Post : Tables → Env → Array Value → State → Outcome → State → Prop} (hpost : ∀ tb e args s v u, (limb_1_1.after args s (.returned v) u = true ∧ limb_1_2.after args s (.returned v) u = true ∧ True) → FrameEnd s (.returned v) u (Jvm.fieldLocs frame_1_writes args s ++ Jvm.arrayLocs frame_1_arrays args s ++ Jvm.staticLocs frame_1_statics s) 16 128 → Post tb e args s (.returned v) u) :
    ArmFor flags0 classFile x code maxLocals ret World_1 tables_1 room_1 Calls_1 rest_1 Pre_1 Post := by
  intro l hfl _ _ p e ha hc hk s m args below hf hA hF happ hP
  obtain ⟨hcalls, hrest, hpre⟩ := hP
  obtain ⟨-, -, -, hnamed, -, -, -, hat⟩ := (Spec.applies_iff hf).mp happ
  obtain ⟨hg, hn⟩ := and_e (Cond.before_iff.mp (show (Jvm.Cond.and given_1 narrow_1).before args s = true from hpre))
  obtain ⟨g1a, g1b⟩ := and_e hg
  obtain ⟨g2a, g2b⟩ := and_e hn
  obtain ⟨g3a, g3b⟩ := and_e g2b
  obtain ⟨g4a, g4b⟩ := and_e g3b
  obtain ⟨g5a, g5b⟩ := and_e g4b
  obtain ⟨g6a, g6b⟩ := and_e g5b
  obtain ⟨g7a, g7b⟩ := and_e g6b
  obtain ⟨g8a, g8b⟩ := and_e g7b
  obtain ⟨g9a, g9b⟩ := and_e g8b
  obtain ⟨g10a, g10b⟩ := and_e g9b
  obtain ⟨g11a, g11b⟩ := and_e g10b
  obtain ⟨g12a, g12b⟩ := and_e g11b
  obtain ⟨g13a, g13b⟩ := and_e g12b
  obtain ⟨g14a, g14b⟩ := and_e g13b
  obtain ⟨g15a, g15b⟩ := and_e g14b
  obtain ⟨g16a, g16b⟩ := and_e g15b
  obtain ⟨g17a, g17b⟩ := and_e g16b
  obtain ⟨g18a, g18b⟩ := and_e g17b
  obtain ⟨g19a, g19b⟩ := and_e g18b
  obtain ⟨g20a, g20b⟩ := and_e g19b
  obtain ⟨g21a, g21b⟩ := and_e g20b
  obtain ⟨g22a, g22b⟩ := and_e g21b
  obtain ⟨g23a, g23b⟩ := and_e g22b
  obtain ⟨g24a, g24b⟩ := and_e g23b
  obtain ⟨g25a, g25b⟩ := and_e g24b
  obtain ⟨g26a, g26b⟩ := and_e g25b
  obtain ⟨g27a, g27b⟩ := and_e g26b
  obtain ⟨g28a, g28b⟩ := and_e g27b
  obtain ⟨g29a, g29b⟩ := and_e g28b
  obtain ⟨g30a, g30b⟩ := and_e g29b
  obtain ⟨g31a, g31b⟩ := and_e g30b
  obtain ⟨g32a, g32b⟩ := and_e g31b
  obtain ⟨g33a, g33b⟩ := and_e g32b
  obtain ⟨g34a, g34b⟩ := and_e g33b
  obtain ⟨g35a, g35b⟩ := and_e g34b
  obtain ⟨g36a, g36b⟩ := and_e g35b
  obtain ⟨g37a, g37b⟩ := and_e g36b
  obtain ⟨g38a, g38b⟩ := and_e g37b
  obtain ⟨w0, rfl⟩ : ∃ w0 : Value, args = #[w0] := by
    have hs : args.size = 1 := by simpa [Cond.value, given_1] using g1a
    obtain ⟨L⟩ := args
    match L, hs with
    | [w0], _ => exact ⟨w0, rfl⟩
  have hw := fun d (hd : d ∈ tables_1) => atoms_spec (ws := Jvm.Cond.code x code maxLocals ret :: tables_1) hat d (List.mem_cons_of_mem _ hd)
  have hfit : Fit s := fun {y c} hc i hi => by
    obtain ⟨ha, rfl⟩ := Array.getElem?_eq_some_iff.mp hc
    have q := List.all_eq_true.mp ((Array.all_eq_true_iff_forall_mem.mp hF) _ (Array.getElem_mem ha)) i (List.mem_range.mpr hi)
    simpa [Array.getElem?_eq_getElem hi] using q
  obtain ⟨vx, ei0⟩ := is_v g1b
  obtain rfl : w0 = (.int vx) := Option.some.inj ei0
  obtain ⟨a_ACQUIRE, e_ACQUIRE⟩ := exa_v g2a
  have S_ACQUIRE : Sta s s.heap "com/example/hornbill/hornbill/metrics/StoreOperation" "ACQUIRE" "Lcom/example/hornbill/hornbill/metrics/StoreOperation;" (.ref a_ACQUIRE) := Sta.start e_ACQUIRE (Or.inr ⟨(hw _ (List.mem_of_getElem? (i := 3) rfl)), (hw _ (List.mem_of_getElem? (i := 4) rfl))⟩)
  have E_ACQUIRE : Exa s s.heap a_ACQUIRE "com/example/hornbill/hornbill/metrics/StoreOperation" := Exa.start e_ACQUIRE g2a
  obtain ⟨a_ACQUIRE_WAITING, e_ACQUIRE_WAITING⟩ := exa_v g3a
  have S_ACQUIRE_WAITING : Sta s s.heap "com/example/hornbill/hornbill/metrics/StoreOperation" "ACQUIRE_WAITING" "Lcom/example/hornbill/hornbill/metrics/StoreOperation;" (.ref a_ACQUIRE_WAITING) := Sta.start e_ACQUIRE_WAITING (Or.inr ⟨(hw _ (List.mem_of_getElem? (i := 3) rfl)), (hw _ (List.mem_of_getElem? (i := 7) rfl))⟩)
  have E_ACQUIRE_WAITING : Exa s s.heap a_ACQUIRE_WAITING "com/example/hornbill/hornbill/metrics/StoreOperation" := Exa.start e_ACQUIRE_WAITING g3a
  obtain ⟨a_RENEW, e_RENEW⟩ := exa_v g4a
  have S_RENEW : Sta s s.heap "com/example/hornbill/hornbill/metrics/StoreOperation" "RENEW" "Lcom/example/hornbill/hornbill/metrics/StoreOperation;" (.ref a_RENEW) := Sta.start e_RENEW (Or.inr ⟨(hw _ (List.mem_of_getElem? (i := 3) rfl)), (hw _ (List.mem_of_getElem? (i := 9) rfl))⟩)
  have E_RENEW : Exa s s.heap a_RENEW "com/example/hornbill/hornbill/metrics/StoreOperation" := Exa.start e_RENEW g4a
  obtain ⟨a_RELEASE, e_RELEASE⟩ := exa_v g5a
  have S_RELEASE : Sta s s.heap "com/example/hornbill/hornbill/metrics/StoreOperation" "RELEASE" "Lcom/example/hornbill/hornbill/metrics/StoreOperation;" (.ref a_RELEASE) := Sta.start e_RELEASE (Or.inr ⟨(hw _ (List.mem_of_getElem? (i := 3) rfl)), (hw _ (List.mem_of_getElem? (i := 11) rfl))⟩)
  have E_RELEASE : Exa s s.heap a_RELEASE "com/example/hornbill/hornbill/metrics/StoreOperation" := Exa.start e_RELEASE g5a
  obtain ⟨a_REVOKE, e_REVOKE⟩ := exa_v g6a
  have S_REVOKE : Sta s s.heap "com/example/hornbill/hornbill/metrics/StoreOperation" "REVOKE" "Lcom/example/hornbill/hornbill/metrics/StoreOperation;" (.ref a_REVOKE) := Sta.start e_REVOKE (Or.inr ⟨(hw _ (List.mem_of_getElem? (i := 3) rfl)), (hw _ (List.mem_of_getElem? (i := 13) rfl))⟩)
  have E_REVOKE : Exa s s.heap a_REVOKE "com/example/hornbill/hornbill/metrics/StoreOperation" := Exa.start e_REVOKE g6a
  obtain ⟨a_RENEW_ON_ACCESS, e_RENEW_ON_ACCESS⟩ := exa_v g7a
  have S_RENEW_ON_ACCESS : Sta s s.heap "com/example/hornbill/hornbill/metrics/StoreOperation" "RENEW_ON_ACCESS" "Lcom/example/hornbill/hornbill/metrics/StoreOperation;" (.ref a_RENEW_ON_ACCESS) := Sta.start e_RENEW_ON_ACCESS (Or.inr ⟨(hw _ (List.mem_of_getElem? (i := 3) rfl)), (hw _ (List.mem_of_getElem? (i := 15) rfl))⟩)
  have E_RENEW_ON_ACCESS : Exa s s.heap a_RENEW_ON_ACCESS "com/example/hornbill/hornbill/metrics/StoreOperation" := Exa.start e_RENEW_ON_ACCESS g7a
  obtain ⟨a_FENCE, e_FENCE⟩ := exa_v g8a
  have S_FENCE : Sta s s.heap "com/example/hornbill/hornbill/metrics/StoreOperation" "FENCE" "Lcom/example/hornbill/hornbill/metrics/StoreOperation;" (.ref a_FENCE) := Sta.start e_FENCE (Or.inr ⟨(hw _ (List.mem_of_getElem? (i := 3) rfl)), (hw _ (List.mem_of_getElem? (i := 17) rfl))⟩)
  have E_FENCE : Exa s s.heap a_FENCE "com/example/hornbill/hornbill/metrics/StoreOperation" := Exa.start e_FENCE g8a
  obtain ⟨a_SHOW, e_SHOW⟩ := exa_v g9a
  have S_SHOW : Sta s s.heap "com/example/hornbill/hornbill/metrics/StoreOperation" "SHOW" "Lcom/example/hornbill/hornbill/metrics/StoreOperation;" (.ref a_SHOW) := Sta.start e_SHOW (Or.inr ⟨(hw _ (List.mem_of_getElem? (i := 3) rfl)), (hw _ (List.mem_of_getElem? (i := 19) rfl))⟩)
  have E_SHOW : Exa s s.heap a_SHOW "com/example/hornbill/hornbill/metrics/StoreOperation" := Exa.start e_SHOW g9a
  obtain ⟨a_LIST, e_LIST⟩ := exa_v g10a
  have S_LIST : Sta s s.heap "com/example/hornbill/hornbill/metrics/StoreOperation" "LIST" "Lcom/example/hornbill/hornbill/metrics/StoreOperation;" (.ref a_LIST) := Sta.start e_LIST (Or.inr ⟨(hw _ (List.mem_of_getElem? (i := 3) rfl)), (hw _ (List.mem_of_getElem? (i := 21) rfl))⟩)
  have E_LIST : Exa s s.heap a_LIST "com/example/hornbill/hornbill/metrics/StoreOperation" := Exa.start e_LIST g10a
  obtain ⟨a_AWAIT_CHANGE, e_AWAIT_CHANGE⟩ := exa_v g11a
  have S_AWAIT_CHANGE : Sta s s.heap "com/example/hornbill/hornbill/metrics/StoreOperation" "AWAIT_CHANGE" "Lcom/example/hornbill/hornbill/metrics/StoreOperation;" (.ref a_AWAIT_CHANGE) := Sta.start e_AWAIT_CHANGE (Or.inr ⟨(hw _ (List.mem_of_getElem? (i := 3) rfl)), (hw _ (List.mem_of_getElem? (i := 23) rfl))⟩)
  have E_AWAIT_CHANGE : Exa s s.heap a_AWAIT_CHANGE "com/example/hornbill/hornbill/metrics/StoreOperation" := Exa.start e_AWAIT_CHANGE g11a
  obtain ⟨a_BEGIN, e_BEGIN⟩ := exa_v g12a
  have S_BEGIN : Sta s s.heap "com/example/hornbill/hornbill/metrics/StoreOperation" "BEGIN" "Lcom/example/hornbill/hornbill/metrics/StoreOperation;" (.ref a_BEGIN) := Sta.start e_BEGIN (Or.inr ⟨(hw _ (List.mem_of_getElem? (i := 3) rfl)), (hw _ (List.mem_of_getElem? (i := 25) rfl))⟩)
  have E_BEGIN : Exa s s.heap a_BEGIN "com/example/hornbill/hornbill/metrics/StoreOperation" := Exa.start e_BEGIN g12a
  obtain ⟨a_COMMIT, e_COMMIT⟩ := exa_v g13a
  have S_COMMIT : Sta s s.heap "com/example/hornbill/hornbill/metrics/StoreOperation" "COMMIT" "Lcom/example/hornbill/hornbill/metrics/StoreOperation;" (.ref a_COMMIT) := Sta.start e_COMMIT (Or.inr ⟨(hw _ (List.mem_of_getElem? (i := 3) rfl)), (hw _ (List.mem_of_getElem? (i := 27) rfl))⟩)
  have E_COMMIT : Exa s s.heap a_COMMIT "com/example/hornbill/hornbill/metrics/StoreOperation" := Exa.start e_COMMIT g13a
  obtain ⟨a_ROLLBACK, e_ROLLBACK⟩ := exa_v g14a
  have S_ROLLBACK : Sta s s.heap "com/example/hornbill/hornbill/metrics/StoreOperation" "ROLLBACK" "Lcom/example/hornbill/hornbill/metrics/StoreOperation;" (.ref a_ROLLBACK) := Sta.start e_ROLLBACK (Or.inr ⟨(hw _ (List.mem_of_getElem? (i := 3) rfl)), (hw _ (List.mem_of_getElem? (i := 29) rfl))⟩)
  have E_ROLLBACK : Exa s s.heap a_ROLLBACK "com/example/hornbill/hornbill/metrics/StoreOperation" := Exa.start e_ROLLBACK g14a
  obtain ⟨a_SHOW_CLAIM, e_SHOW_CLAIM⟩ := exa_v g15a
  have S_SHOW_CLAIM : Sta s s.heap "com/example/hornbill/hornbill/metrics/StoreOperation" "SHOW_CLAIM" "Lcom/example/hornbill/hornbill/metrics/StoreOperation;" (.ref a_SHOW_CLAIM) := Sta.start e_SHOW_CLAIM (Or.inr ⟨(hw _ (List.mem_of_getElem? (i := 3) rfl)), (hw _ (List.mem_of_getElem? (i := 31) rfl))⟩)
  have E_SHOW_CLAIM : Exa s s.heap a_SHOW_CLAIM "com/example/hornbill/hornbill/metrics/StoreOperation" := Exa.start e_SHOW_CLAIM g15a
  obtain ⟨a_OUTSTANDING, e_OUTSTANDING⟩ := exa_v g16a
  have S_OUTSTANDING : Sta s s.heap "com/example/hornbill/hornbill/metrics/StoreOperation" "OUTSTANDING" "Lcom/example/hornbill/hornbill/metrics/StoreOperation;" (.ref a_OUTSTANDING) := Sta.start e_OUTSTANDING (Or.inr ⟨(hw _ (List.mem_of_getElem? (i := 3) rfl)), (hw _ (List.mem_of_getElem? (i := 33) rfl))⟩)
  have E_OUTSTANDING : Exa s s.heap a_OUTSTANDING "com/example/hornbill/hornbill/metrics/StoreOperation" := Exa.start e_OUTSTANDING g16a
  obtain ⟨a_REQUEST, e_REQUEST⟩ := exa_v g17a
  have S_REQUEST : Sta s s.heap "com/example/hornbill/hornbill/metrics/StoreOperation" "REQUEST" "Lcom/example/hornbill/hornbill/metrics/StoreOperation;" (.ref a_REQUEST) := Sta.start e_REQUEST (Or.inr ⟨(hw _ (List.mem_of_getElem? (i := 3) rfl)), (hw _ (List.mem_of_getElem? (i := 35) rfl))⟩)
  have E_REQUEST : Exa s s.heap a_REQUEST "com/example/hornbill/hornbill/metrics/StoreOperation" := Exa.start e_REQUEST g17a
  obtain ⟨a_LIST_CLAIMS, e_LIST_CLAIMS⟩ := exa_v g18a
  have S_LIST_CLAIMS : Sta s s.heap "com/example/hornbill/hornbill/metrics/StoreOperation" "LIST_CLAIMS" "Lcom/example/hornbill/hornbill/metrics/StoreOperation;" (.ref a_LIST_CLAIMS) := Sta.start e_LIST_CLAIMS (Or.inr ⟨(hw _ (List.mem_of_getElem? (i := 3) rfl)), (hw _ (List.mem_of_getElem? (i := 37) rfl))⟩)
  have E_LIST_CLAIMS : Exa s s.heap a_LIST_CLAIMS "com/example/hornbill/hornbill/metrics/StoreOperation" := Exa.start e_LIST_CLAIMS g18a
  obtain ⟨a_PURGE, e_PURGE⟩ := exa_v g19a
  have S_PURGE : Sta s s.heap "com/example/hornbill/hornbill/metrics/StoreOperation" "PURGE" "Lcom/example/hornbill/hornbill/metrics/StoreOperation;" (.ref a_PURGE) := Sta.start e_PURGE (Or.inr ⟨(hw _ (List.mem_of_getElem? (i := 3) rfl)), (hw _ (List.mem_of_getElem? (i := 39) rfl))⟩)
  have E_PURGE : Exa s s.heap a_PURGE "com/example/hornbill/hornbill/metrics/StoreOperation" := Exa.start e_PURGE g19a
  obtain ⟨a_DROP, e_DROP⟩ := exa_v g20a
  have S_DROP : Sta s s.heap "com/example/hornbill/hornbill/metrics/StoreOperation" "DROP" "Lcom/example/hornbill/hornbill/metrics/StoreOperation;" (.ref a_DROP) := Sta.start e_DROP (Or.inr ⟨(hw _ (List.mem_of_getElem? (i := 3) rfl)), (hw _ (List.mem_of_getElem? (i := 41) rfl))⟩)
  have E_DROP : Exa s s.heap a_DROP "com/example/hornbill/hornbill/metrics/StoreOperation" := Exa.start e_DROP g20a
  have o_ACQUIRE := own_ord e_ACQUIRE g21a
  have o_SHOW := own_ord e_SHOW g22a
  have o_LIST := own_ord e_LIST g23a
  have o_AWAIT_CHANGE := own_ord e_AWAIT_CHANGE g24a
  have o_SHOW_CLAIM := own_ord e_SHOW_CLAIM g25a
  have o_OUTSTANDING := own_ord e_OUTSTANDING g26a
  have o_REQUEST := own_ord e_REQUEST g27a
  have o_LIST_CLAIMS := own_ord e_LIST_CLAIMS g28a
  have o_RELEASE := own_ord e_RELEASE g29a
  have o_RENEW_ON_ACCESS := own_ord e_RENEW_ON_ACCESS g30a
  have o_PURGE := own_ord e_PURGE g31a
  have o_RENEW := own_ord e_RENEW g32a
  have o_COMMIT := own_ord e_COMMIT g33a
  have o_BEGIN := own_ord e_BEGIN g34a
  have o_ACQUIRE_WAITING := own_ord e_ACQUIRE_WAITING g35a
  have o_DROP := own_ord e_DROP g36a
  have o_FENCE := own_ord e_FENCE g37a
  have o_REVOKE := own_ord e_REVOKE g38a
  have o_ROLLBACK := own_ord e_ROLLBACK g38b
  obtain ⟨n, o, h1, h2, h3, _, L, rfl, ⟨rfl, N⟩, hq⟩ := rm0 l s _ hw tables_1 vx a_ACQUIRE a_ACQUIRE_WAITING a_RENEW a_RELEASE a_REVOKE a_RENEW_ON_ACCESS a_FENCE a_SHOW a_LIST a_AWAIT_CHANGE a_BEGIN a_COMMIT a_ROLLBACK a_SHOW_CLAIM a_OUTSTANDING a_REQUEST a_LIST_CLAIMS a_PURGE a_DROP (own_ordv s) s.heap s.heap.size (Nat.le_refl _) S_ACQUIRE S_ACQUIRE_WAITING S_RENEW S_RELEASE S_REVOKE S_RENEW_ON_ACCESS S_FENCE S_SHOW S_LIST S_AWAIT_CHANGE S_BEGIN S_COMMIT S_ROLLBACK S_SHOW_CLAIM S_OUTSTANDING S_REQUEST S_LIST_CLAIMS S_PURGE S_DROP E_ACQUIRE E_ACQUIRE_WAITING E_RENEW E_RELEASE E_REVOKE E_RENEW_ON_ACCESS E_FENCE E_SHOW E_LIST E_AWAIT_CHANGE E_BEGIN E_COMMIT E_ROLLBACK E_SHOW_CLAIM E_OUTSTANDING E_REQUEST E_LIST_CLAIMS E_PURGE E_DROP (own_ordv_eq o_ACQUIRE) (own_ordv_eq o_ACQUIRE_WAITING) (own_ordv_eq o_RENEW) (own_ordv_eq o_RELEASE) (own_ordv_eq o_REVOKE) (own_ordv_eq o_RENEW_ON_ACCESS) (own_ordv_eq o_FENCE) (own_ordv_eq o_SHOW) (own_ordv_eq o_LIST) (own_ordv_eq o_AWAIT_CHANGE) (own_ordv_eq o_BEGIN) (own_ordv_eq o_COMMIT) (own_ordv_eq o_ROLLBACK) (own_ordv_eq o_SHOW_CLAIM) (own_ordv_eq o_OUTSTANDING) (own_ordv_eq o_REQUEST) (own_ordv_eq o_LIST_CLAIMS) (own_ordv_eq o_PURGE) (own_ordv_eq o_DROP) p e ha hc hk s m _ below hf ((Spec.applies_iff_loose hf).mp happ).1 ⟨rfl, State.Warmed39.refl s, rfl⟩ trivial
  refine ⟨n, _, h1, h2, h3, hpost _ _ _ _ _ _ ⟨Cond.after_iff.mpr rfl, Cond.after_iff.mpr (eq_i res_at (Term.int_eval (1)) rfl), trivial⟩ ⟨hq.1, hq.2.1, (hq.2.2.sift fun y hy => Or.inr (N y hy)).mono (by decide) (by decide)⟩⟩
theorem main_1_1 : Claimed_1_1 := comes_1 fun _ _ _ _ _ _ h hF => ⟨h.1, hF⟩
theorem main_1_2 : Claimed_1_2 := comes_1 fun _ _ _ _ _ _ h hF => ⟨h.2.1, hF⟩
end Jvm.Pilot.@@N@@
namespace Jvm.Pilot.@@N@@
open Jvm Jvm.ClassFile Sem Op Lib Jvm.Free Jvm.Stand Jvm.Pilot.@@N@@.Jvm.D
/-! MADE BY PROGRAM (witnessworld.py) out of the Statement's table words and the real class files: 13 classes; the members and pool entries that the words name. The judged class is class 1, her method 1. -/
namespace start1
open Jvm.ClassFile
def u (s : String) : CpInfo := .utf8 (stringToUtf16 s)
/-- a pool by its gaps: so many unusable entries, then the entry; so many at the end -/
def gap : Nat → List CpInfo → List CpInfo
  | 0, r => r
  | n + 1, r => .unusable :: gap n r
def poolList (es : List (Nat × CpInfo)) (last : Nat) : List CpInfo := es.foldr (fun e r => gap e.1 (e.2 :: r)) (gap last [])
def pool (es : List (Nat × CpInfo)) (last : Nat) : Array CpInfo := ⟨poolList es last⟩
def fileOf (pool : Array CpInfo) (this : Nat) (attrs : Array Attribute := #[]) (ms : Array MethodInfo := #[]) (fl : Nat := 33) (sup : Nat := 0) (ifs : Array Nat := #[]) (fds : Array FieldInfo := #[]) : ClassFile where
  minorVersion := 0
  majorVersion := 65
  constantPool := pool
  accessFlags := fl
  thisClass := this
  superClass := sup
  interfaces := ifs
  fields := fds
  methods := ms
  attributes := attrs
def plain (name : String) (sup : Option ClassId) : Class where
  name := name
  kind := .ordinary
  loader := none
  accessFlags := 33
  super := sup
  interfaces := #[]
  cf := none
  fields := #[]
  methods := #[]
  instanceTypes := #[]
  staticTypes := #[]
  resolved := #[]
  callSites := []
  init := .initialized
  statics := none
  mirror := none

def pool0 : Array CpInfo := pool [(5, u "<init>"), (0, u "()V"), (1, .class_ 10), (1, u "java/lang/Object")] 113

def k0m0 : Method := { name := "<init>", desc := "()V", sig := { parameters := [], returnType := none }, accessFlags := 1, code := none }
/-- java/lang/Object -/
def k0 : Class := { plain "java/lang/Object" none with
  accessFlags := 33
  interfaces := #[]
  cf := some (fileOf pool0 8 #[] #[{ accessFlags := 1, nameIndex := 5, descriptorIndex := 6, attributes := #[] }] 33 0 #[] #[])
  fields := #[]
  methods := #[k0m0]
  instanceTypes := #[]
  staticTypes := #[]
  resolved := Array.replicate 124 none
  statics := none }

def pool1 : Array CpInfo := pool [(2, .class_ 4), (1, u "java/lang/Object"), (0, u "<init>"), (0, u "()V"), (0, .class_ 8), (0, u "com/example/hornbill/hornbill/metrics/StoreOperation"), (0, .fieldref 7 10), (0, .nameAndType 11 12), (0, u "ACQUIRE"), (0, u "Lcom/example/hornbill/hornbill/metrics/StoreOperation;"), (0, .fieldref 7 14), (0, .nameAndType 15 12), (0, u "ACQUIRE_WAITING"), (0, .fieldref 7 17), (0, .nameAndType 18 12), (0, u "RENEW"), (0, .fieldref 7 20), (0, .nameAndType 21 12), (0, u "RELEASE"), (0, .fieldref 7 23), (0, .nameAndType 24 12), (0, u "REVOKE"), (0, .fieldref 7 26), (0, .nameAndType 27 12), (0, u "RENEW_ON_ACCESS"), (0, .fieldref 7 29), (0, .nameAndType 30 12), (0, u "FENCE"), (0, .fieldref 7 32), (0, .nameAndType 33 12), (0, u "SHOW"), (0, .fieldref 7 35), (0, .nameAndType 36 12), (0, u "LIST"), (0, .fieldref 7 38), (0, .nameAndType 39 12), (0, u "AWAIT_CHANGE"), (0, .fieldref 7 41), (0, .nameAndType 42 12), (0, u "BEGIN"), (0, .fieldref 7 44), (0, .nameAndType 45 12), (0, u "COMMIT"), (0, .fieldref 7 47), (0, .nameAndType 48 12), (0, u "ROLLBACK"), (0, .fieldref 7 50), (0, .nameAndType 51 12), (0, u "SHOW_CLAIM"), (0, .fieldref 7 53), (0, .nameAndType 54 12), (0, u "OUTSTANDING"), (0, .fieldref 7 56), (0, .nameAndType 57 12), (0, u "REQUEST"), (0, .fieldref 7 59), (0, .nameAndType 60 12), (0, u "LIST_CLAIMS"), (0, .fieldref 7 62), (0, .nameAndType 63 12), (0, u "PURGE"), (0, .fieldref 7 65), (0, .nameAndType 66 12), (0, u "DROP"), (0, .integer 2147483647), (0, .class_ 69), (0, u "com/example/hornbill/hornbill/metrics/StoreOperationReadsPinLaw"), (0, .integer 123776), (0, .methodref 7 72), (0, .nameAndType 73 74), (0, u "reads"), (0, u "()Z"), (0, u "READ_BITS"), (0, u "I"), (3, u "law"), (0, u "(I)Z")] 5

def k1m0 : Method := { name := "<init>", desc := "()V", sig := { parameters := [], returnType := none }, accessFlags := 1, code := none }
def k1c1 : Code := { maxStack := 4, maxLocals := 4, code := code, exceptionTable := #[], attributes := #[] }
def k1m1 : Method := { name := "law", desc := "(I)Z", sig := { parameters := [.int], returnType := some .boolean }, accessFlags := 9, code := some k1c1 }
/-- com/example/hornbill/hornbill/metrics/StoreOperationReadsPinLaw -/
def k1 : Class := { plain "com/example/hornbill/hornbill/metrics/StoreOperationReadsPinLaw" (some 0) with
  accessFlags := 49
  interfaces := #[]
  cf := some (fileOf pool1 68 #[] #[{ accessFlags := 1, nameIndex := 5, descriptorIndex := 6, attributes := #[] }, { accessFlags := 9, nameIndex := 80, descriptorIndex := 81, attributes := #[] }] 49 2 #[] #[{ accessFlags := 26, nameIndex := 75, descriptorIndex := 76, attributes := #[] }])
  fields := #[{ name := "READ_BITS", type := .int, accessFlags := 26, slot := 0, constantValue := 0 }]
  methods := #[k1m0, k1m1]
  instanceTypes := #[]
  staticTypes := #[.int]
  resolved := Array.replicate 87 none
  statics := none }

def pool2 : Array CpInfo := pool [(1, .class_ 2), (0, u "java/lang/constant/Constable"), (0, .class_ 4), (0, u "java/lang/Object")] 6

/-- java/lang/constant/Constable -/
def k2 : Class := { plain "java/lang/constant/Constable" (some 0) with
  accessFlags := 1537
  interfaces := #[]
  cf := some (fileOf pool2 1 #[] #[] 1537 3 #[] #[])
  fields := #[]
  methods := #[]
  instanceTypes := #[]
  staticTypes := #[]
  resolved := Array.replicate 11 none
  statics := none }

def pool3 : Array CpInfo := pool [(1, .class_ 2), (0, u "java/lang/Comparable"), (0, .class_ 4), (0, u "java/lang/Object")] 7

/-- java/lang/Comparable -/
def k3 : Class := { plain "java/lang/Comparable" (some 0) with
  accessFlags := 1537
  interfaces := #[]
  cf := some (fileOf pool3 1 #[] #[] 1537 3 #[] #[])
  fields := #[]
  methods := #[]
  instanceTypes := #[]
  staticTypes := #[]
  resolved := Array.replicate 12 none
  statics := none }

def pool4 : Array CpInfo := pool [(1, .class_ 2), (0, u "java/io/Serializable"), (0, .class_ 4), (0, u "java/lang/Object")] 2

/-- java/io/Serializable -/
def k4 : Class := { plain "java/io/Serializable" (some 0) with
  accessFlags := 1537
  interfaces := #[]
  cf := some (fileOf pool4 1 #[] #[] 1537 3 #[] #[])
  fields := #[]
  methods := #[]
  instanceTypes := #[]
  staticTypes := #[]
  resolved := Array.replicate 7 none
  statics := none }

def pool5 : Array CpInfo := pool [(2, .class_ 4), (1, u "java/lang/Enum"), (0, u "name"), (0, u "Ljava/lang/String;"), (2, u "ordinal"), (0, u "I"), (1, .class_ 14), (1, u "java/lang/Object"), (4, u "hash"), (86, .class_ 108), (1, u "java/lang/Enum$EnumDesc"), (2, .class_ 112), (0, u "java/lang/constant/Constable"), (0, .class_ 114), (0, u "java/lang/Comparable"), (0, .class_ 116), (0, u "java/io/Serializable")] 87

/-- java/lang/Enum -/
def k5 : Class := { plain "java/lang/Enum" (some 0) with
  accessFlags := 1057
  interfaces := #[2, 3, 4]
  cf := some (fileOf pool5 2 #[.nestMembers #[106]] #[] 1057 12 #[111, 113, 115] #[{ accessFlags := 18, nameIndex := 5, descriptorIndex := 6, attributes := #[] }, { accessFlags := 18, nameIndex := 9, descriptorIndex := 10, attributes := #[] }, { accessFlags := 2, nameIndex := 19, descriptorIndex := 10, attributes := #[] }])
  fields := #[{ name := "name", type := (.object "java/lang/String"), accessFlags := 18, slot := 0, constantValue := 0 }, { name := "ordinal", type := .int, accessFlags := 18, slot := 1, constantValue := 0 }, { name := "hash", type := .int, accessFlags := 2, slot := 2, constantValue := 0 }]
  methods := #[]
  instanceTypes := #[(.object "java/lang/String"), .int, .int]
  staticTypes := #[]
  resolved := Array.replicate 204 none
  statics := none }

def pool6 : Array CpInfo := pool [(1, .class_ 2), (0, u "com/example/hornbill/hornbill/metrics/StoreOperation"), (2, u "ACQUIRE"), (0, u "Lcom/example/hornbill/hornbill/metrics/StoreOperation;"), (2, u "ACQUIRE_WAITING"), (2, u "RENEW"), (2, u "RELEASE"), (2, u "REVOKE"), (2, u "RENEW_ON_ACCESS"), (2, u "FENCE"), (0, .fieldref 1 26), (0, .nameAndType 27 6), (0, u "SHOW"), (0, .fieldref 1 29), (0, .nameAndType 30 6), (0, u "LIST"), (0, .fieldref 1 32), (0, .nameAndType 33 6), (0, u "AWAIT_CHANGE"), (2, u "BEGIN"), (2, u "COMMIT"), (2, u "ROLLBACK"), (0, .fieldref 1 44), (0, .nameAndType 45 6), (0, u "SHOW_CLAIM"), (0, .fieldref 1 47), (0, .nameAndType 48 6), (0, u "OUTSTANDING"), (0, .fieldref 1 50), (0, .nameAndType 51 6), (0, u "REQUEST"), (0, .fieldref 1 53), (0, .nameAndType 54 6), (0, u "LIST_CLAIMS"), (2, u "PURGE"), (2, u "DROP"), (2, u "$VALUES"), (0, u "[Lcom/example/hornbill/hornbill/metrics/StoreOperation;"), (6, .class_ 73), (1, u "java/lang/Enum"), (57, u "reads"), (0, u "()Z")] 6

def k6c0 : Code := { maxStack := 2, maxLocals := 1, code := prog_8_method_4_code, exceptionTable := #[], attributes := #[] }
def k6m0 : Method := { name := "reads", desc := "()Z", sig := { parameters := [], returnType := some .boolean }, accessFlags := 0, code := some k6c0 }
/-- com/example/hornbill/hornbill/metrics/StoreOperation -/
def k6 : Class := { plain "com/example/hornbill/hornbill/metrics/StoreOperation" (some 5) with
  accessFlags := 16433
  interfaces := #[]
  cf := some (fileOf pool6 1 #[] #[{ accessFlags := 0, nameIndex := 131, descriptorIndex := 132, attributes := #[] }] 16433 71 #[] #[{ accessFlags := 16409, nameIndex := 5, descriptorIndex := 6, attributes := #[] }, { accessFlags := 16409, nameIndex := 9, descriptorIndex := 6, attributes := #[] }, { accessFlags := 16409, nameIndex := 12, descriptorIndex := 6, attributes := #[] }, { accessFlags := 16409, nameIndex := 15, descriptorIndex := 6, attributes := #[] }, { accessFlags := 16409, nameIndex := 18, descriptorIndex := 6, attributes := #[] }, { accessFlags := 16409, nameIndex := 21, descriptorIndex := 6, attributes := #[] }, { accessFlags := 16409, nameIndex := 24, descriptorIndex := 6, attributes := #[] }, { accessFlags := 16409, nameIndex := 27, descriptorIndex := 6, attributes := #[] }, { accessFlags := 16409, nameIndex := 30, descriptorIndex := 6, attributes := #[] }, { accessFlags := 16409, nameIndex := 33, descriptorIndex := 6, attributes := #[] }, { accessFlags := 16409, nameIndex := 36, descriptorIndex := 6, attributes := #[] }, { accessFlags := 16409, nameIndex := 39, descriptorIndex := 6, attributes := #[] }, { accessFlags := 16409, nameIndex := 42, descriptorIndex := 6, attributes := #[] }, { accessFlags := 16409, nameIndex := 45, descriptorIndex := 6, attributes := #[] }, { accessFlags := 16409, nameIndex := 48, descriptorIndex := 6, attributes := #[] }, { accessFlags := 16409, nameIndex := 51, descriptorIndex := 6, attributes := #[] }, { accessFlags := 16409, nameIndex := 54, descriptorIndex := 6, attributes := #[] }, { accessFlags := 16409, nameIndex := 57, descriptorIndex := 6, attributes := #[] }, { accessFlags := 16409, nameIndex := 60, descriptorIndex := 6, attributes := #[] }, { accessFlags := 4122, nameIndex := 63, descriptorIndex := 64, attributes := #[] }])
  fields := #[{ name := "ACQUIRE", type := (.object "com/example/hornbill/hornbill/metrics/StoreOperation"), accessFlags := 16409, slot := 0, constantValue := 0 }, { name := "ACQUIRE_WAITING", type := (.object "com/example/hornbill/hornbill/metrics/StoreOperation"), accessFlags := 16409, slot := 1, constantValue := 0 }, { name := "RENEW", type := (.object "com/example/hornbill/hornbill/metrics/StoreOperation"), accessFlags := 16409, slot := 2, constantValue := 0 }, { name := "RELEASE", type := (.object "com/example/hornbill/hornbill/metrics/StoreOperation"), accessFlags := 16409, slot := 3, constantValue := 0 }, { name := "REVOKE", type := (.object "com/example/hornbill/hornbill/metrics/StoreOperation"), accessFlags := 16409, slot := 4, constantValue := 0 }, { name := "RENEW_ON_ACCESS", type := (.object "com/example/hornbill/hornbill/metrics/StoreOperation"), accessFlags := 16409, slot := 5, constantValue := 0 }, { name := "FENCE", type := (.object "com/example/hornbill/hornbill/metrics/StoreOperation"), accessFlags := 16409, slot := 6, constantValue := 0 }, { name := "SHOW", type := (.object "com/example/hornbill/hornbill/metrics/StoreOperation"), accessFlags := 16409, slot := 7, constantValue := 0 }, { name := "LIST", type := (.object "com/example/hornbill/hornbill/metrics/StoreOperation"), accessFlags := 16409, slot := 8, constantValue := 0 }, { name := "AWAIT_CHANGE", type := (.object "com/example/hornbill/hornbill/metrics/StoreOperation"), accessFlags := 16409, slot := 9, constantValue := 0 }, { name := "BEGIN", type := (.object "com/example/hornbill/hornbill/metrics/StoreOperation"), accessFlags := 16409, slot := 10, constantValue := 0 }, { name := "COMMIT", type := (.object "com/example/hornbill/hornbill/metrics/StoreOperation"), accessFlags := 16409, slot := 11, constantValue := 0 }, { name := "ROLLBACK", type := (.object "com/example/hornbill/hornbill/metrics/StoreOperation"), accessFlags := 16409, slot := 12, constantValue := 0 }, { name := "SHOW_CLAIM", type := (.object "com/example/hornbill/hornbill/metrics/StoreOperation"), accessFlags := 16409, slot := 13, constantValue := 0 }, { name := "OUTSTANDING", type := (.object "com/example/hornbill/hornbill/metrics/StoreOperation"), accessFlags := 16409, slot := 14, constantValue := 0 }, { name := "REQUEST", type := (.object "com/example/hornbill/hornbill/metrics/StoreOperation"), accessFlags := 16409, slot := 15, constantValue := 0 }, { name := "LIST_CLAIMS", type := (.object "com/example/hornbill/hornbill/metrics/StoreOperation"), accessFlags := 16409, slot := 16, constantValue := 0 }, { name := "PURGE", type := (.object "com/example/hornbill/hornbill/metrics/StoreOperation"), accessFlags := 16409, slot := 17, constantValue := 0 }, { name := "DROP", type := (.object "com/example/hornbill/hornbill/metrics/StoreOperation"), accessFlags := 16409, slot := 18, constantValue := 0 }, { name := "$VALUES", type := (.array (.object "com/example/hornbill/hornbill/metrics/StoreOperation")), accessFlags := 4122, slot := 19, constantValue := 0 }]
  methods := #[k6m0]
  instanceTypes := #[(.object "java/lang/String"), .int, .int]
  staticTypes := #[(.object "com/example/hornbill/hornbill/metrics/StoreOperation"), (.object "com/example/hornbill/hornbill/metrics/StoreOperation"), (.object "com/example/hornbill/hornbill/metrics/StoreOperation"), (.object "com/example/hornbill/hornbill/metrics/StoreOperation"), (.object "com/example/hornbill/hornbill/metrics/StoreOperation"), (.object "com/example/hornbill/hornbill/metrics/StoreOperation"), (.object "com/example/hornbill/hornbill/metrics/StoreOperation"), (.object "com/example/hornbill/hornbill/metrics/StoreOperation"), (.object "com/example/hornbill/hornbill/metrics/StoreOperation"), (.object "com/example/hornbill/hornbill/metrics/StoreOperation"), (.object "com/example/hornbill/hornbill/metrics/StoreOperation"), (.object "com/example/hornbill/hornbill/metrics/StoreOperation"), (.object "com/example/hornbill/hornbill/metrics/StoreOperation"), (.object "com/example/hornbill/hornbill/metrics/StoreOperation"), (.object "com/example/hornbill/hornbill/metrics/StoreOperation"), (.object "com/example/hornbill/hornbill/metrics/StoreOperation"), (.object "com/example/hornbill/hornbill/metrics/StoreOperation"), (.object "com/example/hornbill/hornbill/metrics/StoreOperation"), (.object "com/example/hornbill/hornbill/metrics/StoreOperation"), (.array (.object "com/example/hornbill/hornbill/metrics/StoreOperation"))]
  resolved := Array.replicate 139 none
  statics := some 0 }

def pool7 : Array CpInfo := pool [(1, u "java/lang/Cloneable"), (0, .class_ 1), (0, u "java/lang/Object"), (0, .class_ 3)] 3

/-- java/lang/Cloneable -/
def k7 : Class := { plain "java/lang/Cloneable" (some 0) with
  accessFlags := 1537
  interfaces := #[]
  cf := some (fileOf pool7 2 #[] #[] 1537 4 #[] #[])
  fields := #[]
  methods := #[]
  instanceTypes := #[]
  staticTypes := #[]
  resolved := Array.replicate 8 none
  statics := none }

/-- the primitive byte -/
def k8 : Class := { plain "byte" none with kind := .primitive 'B', accessFlags := 0x411 }
/-- [B -/
def k9 : Class := { plain "[B" (some 0) with kind := .array 8 .byte, interfaces := #[7, 4], accessFlags := 1041 }

/-- the primitive int -/
def k10 : Class := { plain "int" none with kind := .primitive 'I', accessFlags := 0x411 }
/-- [I -/
def k11 : Class := { plain "[I" (some 0) with kind := .array 10 .int, interfaces := #[7, 4], accessFlags := 1041 }

/-- [Lcom/example/hornbill/hornbill/metrics/StoreOperation; -/
def k12 : Class := { plain "[Lcom/example/hornbill/hornbill/metrics/StoreOperation;" (some 0) with kind := .array 6 (.object "com/example/hornbill/hornbill/metrics/StoreOperation"), interfaces := #[7, 4], accessFlags := 1041 }

def heap : Heap := #[{ cls := 6, slots := #[.ref 1, .ref 2, .ref 3, .ref 4, .ref 5, .ref 6, .ref 7, .ref 8, .ref 9, .ref 10, .ref 11, .ref 12, .ref 13, .ref 14, .ref 15, .ref 16, .ref 17, .ref 18, .ref 19, .null], vm := .statics 6 },
  { cls := 6, slots := #[.null, .int 0, .int 0], vm := .none },
  { cls := 6, slots := #[.null, .int 1, .int 0], vm := .none },
  { cls := 6, slots := #[.null, .int 2, .int 0], vm := .none },
  { cls := 6, slots := #[.null, .int 3, .int 0], vm := .none },
  { cls := 6, slots := #[.null, .int 4, .int 0], vm := .none },
  { cls := 6, slots := #[.null, .int 5, .int 0], vm := .none },
  { cls := 6, slots := #[.null, .int 6, .int 0], vm := .none },
  { cls := 6, slots := #[.null, .int 7, .int 0], vm := .none },
  { cls := 6, slots := #[.null, .int 8, .int 0], vm := .none },
  { cls := 6, slots := #[.null, .int 9, .int 0], vm := .none },
  { cls := 6, slots := #[.null, .int 10, .int 0], vm := .none },
  { cls := 6, slots := #[.null, .int 11, .int 0], vm := .none },
  { cls := 6, slots := #[.null, .int 12, .int 0], vm := .none },
  { cls := 6, slots := #[.null, .int 13, .int 0], vm := .none },
  { cls := 6, slots := #[.null, .int 14, .int 0], vm := .none },
  { cls := 6, slots := #[.null, .int 15, .int 0], vm := .none },
  { cls := 6, slots := #[.null, .int 16, .int 0], vm := .none },
  { cls := 6, slots := #[.null, .int 17, .int 0], vm := .none },
  { cls := 6, slots := #[.null, .int 18, .int 0], vm := .none }]
def classes : Array Class := #[k0, k1, k2, k3, k4, k5, k6, k7, k8, k9, k10, k11, k12]
def interned : List (Array UInt16 × Addr) := []
def slotsUsed : Nat := 77
def theMethod : MethodId := ⟨1, 1⟩
def args0 : Array Value := #[.int 5]
def aboutOver (below : List Frame) : State where
  vm := { classes := classes, interned := interned.toArray }
  heap := heap
  slotsUsed := slotsUsed
  threads := #[{ frames := .invoking theMethod args0 :: below }]
def below0 : List Frame := [.native { method := ⟨0, 0⟩, args := #[] }]
def about1 : State := aboutOver below0
def p0 : Program := .bare "" "" ""
def e0 : Env := launch0.env 0 0 0
theorem w_frames : about1.frames = Frame.invoking theMethod args0 :: below0 := rfl
set_option maxRecDepth 65536 in
theorem w_args : argsFit about1.vm theMethod args0 = true := by decide +kernel
set_option maxRecDepth 65536 in
theorem w_heap : heapFits about1 = true := by decide +kernel
set_option maxRecDepth 65536 in
theorem w_runnable : about1.curStatus? = some .runnable := by decide +kernel
set_option maxRecDepth 65536 in
theorem w_alone : about1.alone = true := by decide +kernel
set_option maxRecDepth 65536 in
theorem w_named : about1.methodNamed? x = some theMethod := by decide +kernel
set_option maxRecDepth 65536 in
theorem w_hears : about1.hears theMethod below0 = true := by decide +kernel
set_option maxRecDepth 65536 in
theorem w_ripe : about1.ripe theMethod args0 below0 = true := by decide +kernel
theorem w_running : about1.status = .running := rfl
set_option maxRecDepth 65536 in
theorem w_room : about1.hasRoom e0.platform room_1 = true :=
  launch0.hasRoom_least _ room_1 (by decide +kernel) (by decide +kernel) (by decide +kernel) (by decide +kernel) (by decide +kernel) (by decide +kernel)
theorem allAtoms_all (ts : List Jvm.Cond) (a : Array Jvm.Value) (st : Jvm.State) : (allAtoms ts).before a st = ts.all (fun c => c.before a st) := by
  induction ts with
  | nil => rfl
  | cons c t ih =>
    show (Jvm.Cond.and c (allAtoms t)).before a st = _
    rw [Jvm.Cond.before_and, ih, List.all_cons]
def words1 : List Jvm.Cond := Jvm.Cond.code x code maxLocals ret :: tables_1
/-- a 'code' word, met by the world's own term for the bytes: nothing is compared byte by byte -/
theorem code_word {y : MethodName} {bytes : ByteArray} {mx : Nat} {rt : Option FieldType} {a : Array Value} {s : State} {m : MethodId} {meth : Method} {c : Code} (h1 : s.methodNamed? y = some m) (h2 : s.vm.method? m = some meth) (h3 : meth.code = some c) (h4 : c.code = bytes)
    (h5 : (c.maxLocals == mx && c.exceptionTable.isEmpty && decide (c.maxStack ≤ mostOperands) && decide (meth.sig.returnType = rt) && !meth.locks && decide (parseMethodDescriptor y.desc = some meth.sig)) = true) : (Jvm.Cond.code y bytes mx rt).before a s = true := by
  simp only [Bool.and_eq_true, beq_iff_eq, Bool.not_eq_true', decide_eq_true_eq] at h5
  obtain ⟨⟨⟨⟨⟨g1, g2⟩, g3⟩, g4⟩, g5⟩, g6⟩ := h5
  simp [Cond.before, Cond.holds, Cond.value, h1, h2, h3, h4, g1, g2, g3, g4, g5, g6]
def isCode : Jvm.Cond → Bool
  | .code _ _ _ _ => true
  | _ => false
theorem all_split {L : List Jvm.Cond} {P : Jvm.Cond → Bool} (h1 : L.all (fun c => isCode c || P c) = true) (h2 : ∀ c ∈ L.filter isCode, P c = true) : L.all P = true := by
  refine List.all_eq_true.mpr fun c hc => ?_
  have h := List.all_eq_true.mp h1 c hc
  rcases Bool.eq_false_or_eq_true (isCode c) with hi | hi
  · exact h2 c (List.mem_filter.mpr ⟨hc, hi⟩)
  · simpa [hi] using h
set_option maxRecDepth 65536 in
theorem w_c0 : (Jvm.Cond.code x code maxLocals ret).before args0 about1 = true := code_word (m := ⟨1, 1⟩) (meth := k1m1) (c := k1c1) (by decide +kernel) rfl rfl rfl (by decide +kernel)
set_option maxRecDepth 65536 in
theorem w_c1 : (Jvm.Cond.code ({ cls := "com/example/hornbill/hornbill/metrics/StoreOperation", name := "reads", desc := "()Z" } : Jvm.MethodName) prog_8_method_4_code (1 : Nat) (Option.some Jvm.ClassFile.FieldType.boolean)).before args0 about1 = true := code_word (m := ⟨6, 0⟩) (meth := k6m0) (c := k6c0) (by decide +kernel) rfl rfl rfl (by decide +kernel)
def codes1 : List Jvm.Cond := [Jvm.Cond.code x code maxLocals ret, Jvm.Cond.code ({ cls := "com/example/hornbill/hornbill/metrics/StoreOperation", name := "reads", desc := "()Z" } : Jvm.MethodName) prog_8_method_4_code (1 : Nat) (Option.some Jvm.ClassFile.FieldType.boolean)]
set_option maxRecDepth 65536 in
theorem codes_eq : words1.filter isCode = codes1 := rfl
theorem w_codes : ∀ c ∈ words1.filter isCode, c.before args0 about1 = true := by
  rw [codes_eq]
  intro c hc
  simp only [codes1, List.mem_cons, List.not_mem_nil, or_false] at hc
  rcases hc with rfl | rfl
  · exact w_c0
  · exact w_c1
set_option maxRecDepth 65536 in
theorem w_t1 : (words1.take 24).all (fun c => isCode c || c.before args0 about1) = true := by decide +kernel
set_option maxRecDepth 65536 in
theorem w_t2 : ((words1.drop 24).take 24).all (fun c => isCode c || c.before args0 about1) = true := by decide +kernel
set_option maxRecDepth 65536 in
theorem w_t3 : ((words1.drop 24).drop 24).all (fun c => isCode c || c.before args0 about1) = true := by decide +kernel
theorem w_tables : (allAtoms (Jvm.Cond.code x code maxLocals ret :: tables_1)).before args0 about1 = true := by
  rw [allAtoms_all]
  show words1.all (fun c => c.before args0 about1) = true
  refine all_split ?_ w_codes
  rw [← List.take_append_drop 24 words1, List.all_append, w_t1, ← List.take_append_drop 24 (words1.drop 24), List.all_append, w_t2, w_t3]
  rfl
set_option maxRecDepth 65536 in
theorem w_case : (Jvm.Cond.and given_1 narrow_1).before args0 about1 = true := by decide +kernel
theorem w_applies : (headSpec (Jvm.Cond.code x code maxLocals ret :: tables_1) room_1).applies x e0.platform about1 = true :=
  (Spec.applies_iff w_frames).mpr ⟨w_running, w_runnable, w_alone, w_named, w_hears, w_ripe, w_room, w_tables⟩
theorem atStart : AtStart classFile x code maxLocals ret World_1 tables_1 room_1 Calls_1 rest_1 Pre_1 launch0 p0 e0 about1 theMethod args0 below0 :=
  ⟨lists_1, trivial, launch0.admits_env _ _ _, launch0.least_env, fairChoices_fair.cas, fairChoices_fair.clock, w_frames, w_args, w_heap, w_applies, trivial, trivial, w_case⟩
end start1
theorem witness_1 : WitnessClaimed_1 := ⟨start1.p0, start1.e0, start1.about1, start1.theMethod, start1.args0, start1.below0, start1.atStart⟩
end Jvm.Pilot.@@N@@
