import JvmDerived
import JvmDerived.Pilot.@@N@@Statement
import JvmDerived.Pilot.@@N@@Code
set_option linter.unusedVariables false
set_option linter.unusedSimpArgs false
namespace Jvm.RoadKit
open Sem ClassFile Op Lib Jvm.Stand Jvm.Free Jvm.LawKit
section New
variable {p : Program} {l : Launch} {e : Env} {R : Room} {s : State} {m : MethodId} {args : Array Value} {below : List Frame} {meth : Method} {c : Code} {T : State} {locs : List Loc} {cells slots : Nat}
theorem retI (X : Stand p l e R s m args below meth c T locs cells slots) (hx : p.tables.exec = Jvm.exec) {pc : Nat} {Ls : Array Slot} {z : Int32} {rest : List Value} (hret : meth.sig.returnType = some .int) (hd : decode c.code pc = .ok (.ireturn, 1)) {fs : List Frame}
    (hl : ∀ (f : JFrame) (acts : List Action), f.method = m → f.locked = none → f.entered = [] → (doReturn e (T.setTop f) acts (some (.int z))).1 = T.setFrames fs) : Steps p.tables e below (T.setTop (mkF m pc Ls (.int z :: rest))) (T.setFrames fs) :=
  retOut X hx hret rfl (Or.inl ⟨rfl, Or.inl rfl, _, rfl⟩) hd hl
end New
end Jvm.RoadKit
namespace Jvm.Pilot.@@N@@
open Jvm Jvm.ClassFile Sem Op Lib Jvm.Free Jvm.Stand Jvm.LawKit Jvm.RoadKit Bundle Jvm.Pilot.@@N@@.Jvm.D
theorem own_feq {args : Array Value} {s : State} {t : Term} {C n d : String} {k : Int32} {x : Addr} (ev : t.eval args s none [] s = some (.ref x)) (h : (Jvm.Cond.eq (.field t C n d) (.int k)).value args s none s [] = some true) : Fld s s.heap x C n d (.int k) := by
  apply Fld.start
  have e := fld_at (C := C) (n := n) (dd := d) ev
  simp only [Cond.value, e] at h
  cases hq : s.fieldOf? x C n d with
  | none => simp [hq] at h
  | some v => cases v <;> simp [hq, Term.eval] at h ⊢; exact h
theorem own_seq {args : Array Value} {s : State} {t : Term} {k : Int32} (h : (Jvm.Cond.eq t (.int k)).value args s none s [] = some true) : t.eval args s none [] s = some (.int k) := by
  simp only [Cond.value] at h
  cases hq : t.eval args s none [] s with
  | none => simp [hq] at h
  | some v => cases v <;> simp [hq, Term.eval] at h ⊢; exact h
theorem pn_0 : plainName "com/example/indenture/indenture/status/RevenuePlanStatus" = true := by first | (simp [plainName, overriddenIn]; done) | decide +kernel
theorem d1_0 : decode prog_120_method_6_code 0 = .ok (.aload_n 0, 1) := by decide +kernel
theorem d1_1 : decode prog_120_method_6_code 1 = .ok (.getstatic 3, 3) := by decide +kernel
theorem d1_4 : decode prog_120_method_6_code 4 = .ok (.if_acmp .eq 17, 3) := by decide +kernel
theorem d1_21 : decode prog_120_method_6_code 21 = .ok (.iconst 1, 1) := by decide +kernel
theorem d1_22 : decode prog_120_method_6_code 22 = .ok (.goto 4, 3) := by decide +kernel
theorem d1_26 : decode prog_120_method_6_code 26 = .ok (.ireturn, 1) := by decide +kernel
theorem d1_7 : decode prog_120_method_6_code 7 = .ok (.aload_n 0, 1) := by decide +kernel
theorem d1_8 : decode prog_120_method_6_code 8 = .ok (.getstatic 7, 3) := by decide +kernel
theorem d1_11 : decode prog_120_method_6_code 11 = .ok (.if_acmp .eq 10, 3) := by decide +kernel
theorem d1_14 : decode prog_120_method_6_code 14 = .ok (.aload_n 0, 1) := by decide +kernel
theorem d1_15 : decode prog_120_method_6_code 15 = .ok (.getstatic 16, 3) := by decide +kernel
theorem d1_18 : decode prog_120_method_6_code 18 = .ok (.if_acmp .ne 7, 3) := by decide +kernel
theorem d1_25 : decode prog_120_method_6_code 25 = .ok (.iconst 0, 1) := by decide +kernel
theorem ef_1 (m : MethodId) (x0 : Addr) : entryFrame m #[(.ref x0)] 1 = mkF m 0 #[.val (.ref x0)] [] := by first | (simp [entryFrame, mkF, argsToLocals, Value.category]; done) | rfl
def f1 (a1 : Addr) (v_PENDING : Addr) (v_READY : Addr) (v_CANCELLED : Addr) : Int32 := if a1 = v_PENDING then (1 : Int32) else (if a1 = v_READY then (1 : Int32) else (if a1 = v_CANCELLED then (1 : Int32) else (0 : Int32)))
def Q1 (Z : State) (a1 : Addr) (v_PENDING : Addr) (v_READY : Addr) (v_CANCELLED : Addr) (h0 : Heap) (n0 : Nat) (v : Option Value) (h : Heap) (L : List Loc) : Prop := v = some (.int (f1 a1 v_PENDING v_READY v_CANCELLED)) ∧ Fr n0 L ∧ h = h0
set_option maxRecDepth 65536 in
set_option maxHeartbeats 40000000 in
theorem rm1 (l : Launch) (Z : State) (a0 : Array Value) (hw : ∀ d ∈ tables_1, d.before a0 Z = true) (ws : List Jvm.Cond) (a1 : Addr) (v_PENDING : Addr) (v_READY : Addr) (v_CANCELLED : Addr) (h0 : Heap) (n0 : Nat) (Z0 : n0 ≤ h0.size) (S_PENDING : Sta Z h0 "com/example/indenture/indenture/status/RevenuePlanStatus" "PENDING" "Lcom/example/indenture/indenture/status/RevenuePlanStatus;" (.ref v_PENDING)) (S_READY : Sta Z h0 "com/example/indenture/indenture/status/RevenuePlanStatus" "READY" "Lcom/example/indenture/indenture/status/RevenuePlanStatus;" (.ref v_READY)) (S_CANCELLED : Sta Z h0 "com/example/indenture/indenture/status/RevenuePlanStatus" "CANCELLED" "Lcom/example/indenture/indenture/status/RevenuePlanStatus;" (.ref v_CANCELLED)) :
    MetFree l (⟨"com/example/indenture/indenture/status/RevenuePlanStatus", "isSetByHand", "()Z"⟩ : MethodName) (head1 (Jvm.Cond.code (⟨"com/example/indenture/indenture/status/RevenuePlanStatus", "isSetByHand", "()Z"⟩ : MethodName) prog_120_method_6_code 1 (some .boolean) :: ws) ({ frames := 0, cells := 0, slots := 0, locals := 0 } : Room)) (fun a U => a = #[(.ref a1)] ∧ Z.Warmed39 U.vm ∧ U.heap = h0) (fun _ _ _ _ _ => True) (fun _ U o U' => ∃ v L, o = .returned v ∧ Q1 Z a1 v_PENDING v_READY v_CANCELLED h0 n0 v U'.heap L ∧ FrameEnd U o U' L ({ frames := 0, cells := 0, slots := 0, locals := 0 } : Room).cells ({ frames := 0, cells := 0, slots := 0, locals := 0 } : Room).slots) := by
  refine MetFree.of_bodySF (plainFor_of_name pn_0) hisR ?_
  intro p e s m args below meth c s₁ Bd hml0 hP hK
  obtain ⟨rfl, hZ, hh⟩ := hP
  have hx := Bd.exec
  have hby := Bd.bytes
  have hml : c.maxLocals = 1 := hml0
  have hown : s.vm.findClass "com/example/indenture/indenture/status/RevenuePlanStatus" = some m.cls := findClass_of_methodNamed Bd.named
  have hnm := (name_of_methodNamed Bd.named Bd.method).1
  have X0 : Stand p l e ({ frames := 0, cells := 0, slots := 0, locals := 0 } : Room) s m #[(.ref a1)] below meth c s₁ [] 0 0 := Stand.of_body Bd
  have e0 : s₁.heap = h0 := by rw [← hh, Bd.state]; rfl
  have N0 := Fr.nil n0
  have pre0 : ∀ t, Steps p.tables e below (s₁.setTop (mkF m 0 #[.val (.ref a1)] [])) t → Steps p.tables e below (s₁.setTop (entryFrame m #[(.ref a1)] 1)) t := fun t k => castTop (ef_1 m a1) k
  obtain ⟨T1, X1, e1, st1⟩ := getS2 X0 hx hZ hown (host := "") (Or.inl (hw _ (List.mem_of_getElem? (i := 9) rfl))) Via.refl e0 S_PENDING (g := (mkF m 1 #[.val (.ref a1)] [(.ref a1)])) rfl (hb hby d1_1)
  have pre2 : ∀ t, Steps p.tables e below (T1.setTop (mkF m 4 #[.val (.ref a1)] [(.ref v_PENDING), (.ref a1)])) t → Steps p.tables e below (s₁.setTop (entryFrame m #[(.ref a1)] 1)) t := fun t k => pre0 t (by
    show Steps p.tables e below (s₁.setTop (mkF m 0 #[.val (.ref a1)] [])) _
    refine XS.aloadN X0.here hx rfl (hb hby d1_0) rfl rfl ?_
    show Steps p.tables e below (s₁.setTop (mkF m 1 #[.val (.ref a1)] [(.ref a1)])) _
    refine st1 _ ?_
    exact k)
  by_cases hc3 : a1 = v_PENDING
  ·  -- pc 4: a1 = v_PENDING
    obtain ⟨fs, hr, hrun, hended, hW, hsame⟩ := X1.leave (v := some (.int (1 : Int32))) (fun h => by rw [Bd.returns] at h; cases h) Bd.notSynchronized
    refine ⟨_, _, pre2 _ ?_, hrun, hended, _, _, rfl, ?_, ⟨_, rfl⟩, hW, hsame.mono (by decide) (by decide)⟩
    · show Steps p.tables e below (T1.setTop (mkF m 4 #[.val (.ref a1)] [(.ref v_PENDING), (.ref a1)])) _
      refine Jvm.RoadKit.acmp (g := (mkF m 4 #[.val (.ref a1)] [(.ref v_PENDING), (.ref a1)])) X1 hx rfl rfl rfl (pc0 := 4) (pc' := 21) (same := true) rfl (hb hby d1_4) rfl (decide_eq_true (congrArg Value.ref hc3)) (by decide) (by decide) ?_
      show Steps p.tables e below (T1.setTop (mkF m 21 #[.val (.ref a1)] [])) _
      refine XS.iconst X1.here hx rfl (hb hby d1_21) ?_
      show Steps p.tables e below (T1.setTop (mkF m 22 #[.val (.ref a1)] [(.int (1 : Int32))])) _
      refine XS.goto X1.here hx rfl (pc0 := 22) (pc' := 26) rfl (hb hby d1_22) (by decide) (by decide) ?_
      show Steps p.tables e below (T1.setTop (mkF m 26 #[.val (.ref a1)] [(.int (1 : Int32))])) _
      exact retN X1 hx (t := .boolean) Bd.returns (by simp) (hb hby d1_26) hr
    · show Q1 Z a1 v_PENDING v_READY v_CANCELLED h0 n0 _ T1.heap _
      rw [e1]
      exact ⟨(by unfold f1; rw [if_pos hc3]), N0, rfl⟩
  ·  -- pc 4: not a1 = v_PENDING
    obtain ⟨T4, X4, e4, st4⟩ := getS2 X1 hx hZ hown (host := "") (Or.inl (hw _ (List.mem_of_getElem? (i := 12) rfl))) Via.refl e1 S_READY (g := (mkF m 8 #[.val (.ref a1)] [(.ref a1)])) rfl (hb hby d1_8)
    have pre5 : ∀ t, Steps p.tables e below (T4.setTop (mkF m 11 #[.val (.ref a1)] [(.ref v_READY), (.ref a1)])) t → Steps p.tables e below (s₁.setTop (entryFrame m #[(.ref a1)] 1)) t := fun t k => pre2 t (by
      show Steps p.tables e below (T1.setTop (mkF m 4 #[.val (.ref a1)] [(.ref v_PENDING), (.ref a1)])) _
      refine Jvm.RoadKit.acmp (g := (mkF m 4 #[.val (.ref a1)] [(.ref v_PENDING), (.ref a1)])) X1 hx rfl rfl rfl (pc0 := 4) (pc' := 7) (same := false) rfl (hb hby d1_4) rfl (decide_eq_false fun q => hc3 (Value.ref.inj q)) (by decide) (by decide) ?_
      show Steps p.tables e below (T1.setTop (mkF m 7 #[.val (.ref a1)] [])) _
      refine XS.aloadN X1.here hx rfl (hb hby d1_7) rfl rfl ?_
      show Steps p.tables e below (T1.setTop (mkF m 8 #[.val (.ref a1)] [(.ref a1)])) _
      refine st4 _ ?_
      exact k)
    by_cases hc6 : a1 = v_READY
    ·  -- pc 11: a1 = v_READY
      obtain ⟨fs, hr, hrun, hended, hW, hsame⟩ := X4.leave (v := some (.int (1 : Int32))) (fun h => by rw [Bd.returns] at h; cases h) Bd.notSynchronized
      refine ⟨_, _, pre5 _ ?_, hrun, hended, _, _, rfl, ?_, ⟨_, rfl⟩, hW, hsame.mono (by decide) (by decide)⟩
      · show Steps p.tables e below (T4.setTop (mkF m 11 #[.val (.ref a1)] [(.ref v_READY), (.ref a1)])) _
        refine Jvm.RoadKit.acmp (g := (mkF m 11 #[.val (.ref a1)] [(.ref v_READY), (.ref a1)])) X4 hx rfl rfl rfl (pc0 := 11) (pc' := 21) (same := true) rfl (hb hby d1_11) rfl (decide_eq_true (congrArg Value.ref hc6)) (by decide) (by decide) ?_
        show Steps p.tables e below (T4.setTop (mkF m 21 #[.val (.ref a1)] [])) _
        refine XS.iconst X4.here hx rfl (hb hby d1_21) ?_
        show Steps p.tables e below (T4.setTop (mkF m 22 #[.val (.ref a1)] [(.int (1 : Int32))])) _
        refine XS.goto X4.here hx rfl (pc0 := 22) (pc' := 26) rfl (hb hby d1_22) (by decide) (by decide) ?_
        show Steps p.tables e below (T4.setTop (mkF m 26 #[.val (.ref a1)] [(.int (1 : Int32))])) _
        exact retN X4 hx (t := .boolean) Bd.returns (by simp) (hb hby d1_26) hr
      · show Q1 Z a1 v_PENDING v_READY v_CANCELLED h0 n0 _ T4.heap _
        rw [e4]
        exact ⟨(by unfold f1; rw [if_neg hc3, if_pos hc6]), N0, rfl⟩
    ·  -- pc 11: not a1 = v_READY
      obtain ⟨T7, X7, e7, st7⟩ := getS2 X4 hx hZ hown (host := "") (Or.inl (hw _ (List.mem_of_getElem? (i := 14) rfl))) Via.refl e4 S_CANCELLED (g := (mkF m 15 #[.val (.ref a1)] [(.ref a1)])) rfl (hb hby d1_15)
      have pre8 : ∀ t, Steps p.tables e below (T7.setTop (mkF m 18 #[.val (.ref a1)] [(.ref v_CANCELLED), (.ref a1)])) t → Steps p.tables e below (s₁.setTop (entryFrame m #[(.ref a1)] 1)) t := fun t k => pre5 t (by
        show Steps p.tables e below (T4.setTop (mkF m 11 #[.val (.ref a1)] [(.ref v_READY), (.ref a1)])) _
        refine Jvm.RoadKit.acmp (g := (mkF m 11 #[.val (.ref a1)] [(.ref v_READY), (.ref a1)])) X4 hx rfl rfl rfl (pc0 := 11) (pc' := 14) (same := false) rfl (hb hby d1_11) rfl (decide_eq_false fun q => hc6 (Value.ref.inj q)) (by decide) (by decide) ?_
        show Steps p.tables e below (T4.setTop (mkF m 14 #[.val (.ref a1)] [])) _
        refine XS.aloadN X4.here hx rfl (hb hby d1_14) rfl rfl ?_
        show Steps p.tables e below (T4.setTop (mkF m 15 #[.val (.ref a1)] [(.ref a1)])) _
        refine st7 _ ?_
        exact k)
      by_cases hc9 : a1 = v_CANCELLED
      ·  -- pc 18: a1 = v_CANCELLED
        obtain ⟨fs, hr, hrun, hended, hW, hsame⟩ := X7.leave (v := some (.int (1 : Int32))) (fun h => by rw [Bd.returns] at h; cases h) Bd.notSynchronized
        refine ⟨_, _, pre8 _ ?_, hrun, hended, _, _, rfl, ?_, ⟨_, rfl⟩, hW, hsame.mono (by decide) (by decide)⟩
        · show Steps p.tables e below (T7.setTop (mkF m 18 #[.val (.ref a1)] [(.ref v_CANCELLED), (.ref a1)])) _
          refine Jvm.RoadKit.acmp (g := (mkF m 18 #[.val (.ref a1)] [(.ref v_CANCELLED), (.ref a1)])) X7 hx rfl rfl rfl (pc0 := 18) (pc' := 21) (same := true) rfl (hb hby d1_18) rfl (decide_eq_true (congrArg Value.ref hc9)) (by decide) (by decide) ?_
          show Steps p.tables e below (T7.setTop (mkF m 21 #[.val (.ref a1)] [])) _
          refine XS.iconst X7.here hx rfl (hb hby d1_21) ?_
          show Steps p.tables e below (T7.setTop (mkF m 22 #[.val (.ref a1)] [(.int (1 : Int32))])) _
          refine XS.goto X7.here hx rfl (pc0 := 22) (pc' := 26) rfl (hb hby d1_22) (by decide) (by decide) ?_
          show Steps p.tables e below (T7.setTop (mkF m 26 #[.val (.ref a1)] [(.int (1 : Int32))])) _
          exact retN X7 hx (t := .boolean) Bd.returns (by simp) (hb hby d1_26) hr
        · show Q1 Z a1 v_PENDING v_READY v_CANCELLED h0 n0 _ T7.heap _
          rw [e7]
          exact ⟨(by unfold f1; rw [if_neg hc3, if_neg hc6, if_pos hc9]), N0, rfl⟩
      ·  -- pc 18: not a1 = v_CANCELLED
        obtain ⟨fs, hr, hrun, hended, hW, hsame⟩ := X7.leave (v := some (.int (0 : Int32))) (fun h => by rw [Bd.returns] at h; cases h) Bd.notSynchronized
        refine ⟨_, _, pre8 _ ?_, hrun, hended, _, _, rfl, ?_, ⟨_, rfl⟩, hW, hsame.mono (by decide) (by decide)⟩
        · show Steps p.tables e below (T7.setTop (mkF m 18 #[.val (.ref a1)] [(.ref v_CANCELLED), (.ref a1)])) _
          refine Jvm.RoadKit.acmp (g := (mkF m 18 #[.val (.ref a1)] [(.ref v_CANCELLED), (.ref a1)])) X7 hx rfl rfl rfl (pc0 := 18) (pc' := 25) (same := false) rfl (hb hby d1_18) rfl (decide_eq_false fun q => hc9 (Value.ref.inj q)) (by decide) (by decide) ?_
          show Steps p.tables e below (T7.setTop (mkF m 25 #[.val (.ref a1)] [])) _
          refine XS.iconst X7.here hx rfl (hb hby d1_25) ?_
          show Steps p.tables e below (T7.setTop (mkF m 26 #[.val (.ref a1)] [(.int (0 : Int32))])) _
          exact retN X7 hx (t := .boolean) Bd.returns (by simp) (hb hby d1_26) hr
        · show Q1 Z a1 v_PENDING v_READY v_CANCELLED h0 n0 _ T7.heap _
          rw [e7]
          exact ⟨(by unfold f1; rw [if_neg hc3, if_neg hc6, if_neg hc9]), N0, rfl⟩
theorem pn_14 : plainName "java/lang/Enum" = true := by first | (simp [plainName, overriddenIn]; done) | decide +kernel
theorem d3_0 : decode jdk_37_method_2_code 0 = .ok (.aload_n 0, 1) := by decide +kernel
theorem d3_1 : decode jdk_37_method_2_code 1 = .ok (.getfield 7, 3) := by decide +kernel
theorem d3_4 : decode jdk_37_method_2_code 4 = .ok (.ireturn, 1) := by decide +kernel
theorem ef_3 (m : MethodId) (x0 : Addr) : entryFrame m #[(.ref x0)] 1 = mkF m 0 #[.val (.ref x0)] [] := by first | (simp [entryFrame, mkF, argsToLocals, Value.category]; done) | rfl
def Q3 (Z : State) (a1 : Addr) (ov : Int32) (h0 : Heap) (n0 : Nat) (v : Option Value) (h : Heap) (L : List Loc) : Prop := v = some (.int ov) ∧ Fr n0 L ∧ h = h0
set_option maxRecDepth 65536 in
set_option maxHeartbeats 40000000 in
theorem rm3 (l : Launch) (Z : State) (a0 : Array Value) (hw : ∀ d ∈ tables_1, d.before a0 Z = true) (ws : List Jvm.Cond) (a1 : Addr) (ov : Int32) (h0 : Heap) (n0 : Nat) (Z0 : n0 ≤ h0.size) (F_ordinal_a1 : Fld Z h0 a1 "java/lang/Enum" "ordinal" "I" (.int ov)) :
    MetFree l (⟨"java/lang/Enum", "ordinal", "()I"⟩ : MethodName) (head1 (Jvm.Cond.code (⟨"java/lang/Enum", "ordinal", "()I"⟩ : MethodName) jdk_37_method_2_code 1 (some .int) :: ws) ({ frames := 0, cells := 0, slots := 0, locals := 0 } : Room)) (fun a U => a = #[(.ref a1)] ∧ Z.Warmed39 U.vm ∧ U.heap = h0) (fun _ _ _ _ _ => True) (fun _ U o U' => ∃ v L, o = .returned v ∧ Q3 Z a1 ov h0 n0 v U'.heap L ∧ FrameEnd U o U' L ({ frames := 0, cells := 0, slots := 0, locals := 0 } : Room).cells ({ frames := 0, cells := 0, slots := 0, locals := 0 } : Room).slots) := by
  refine MetFree.of_bodySF (plainFor_of_name pn_14) hisR ?_
  intro p e s m args below meth c s₁ Bd hml0 hP hK
  obtain ⟨rfl, hZ, hh⟩ := hP
  have hx := Bd.exec
  have hby := Bd.bytes
  have hml : c.maxLocals = 1 := hml0
  have hown : s.vm.findClass "java/lang/Enum" = some m.cls := findClass_of_methodNamed Bd.named
  have hnm := (name_of_methodNamed Bd.named Bd.method).1
  have X0 : Stand p l e ({ frames := 0, cells := 0, slots := 0, locals := 0 } : Room) s m #[(.ref a1)] below meth c s₁ [] 0 0 := Stand.of_body Bd
  have e0 : s₁.heap = h0 := by rw [← hh, Bd.state]; rfl
  have N0 := Fr.nil n0
  have pre0 : ∀ t, Steps p.tables e below (s₁.setTop (mkF m 0 #[.val (.ref a1)] [])) t → Steps p.tables e below (s₁.setTop (entryFrame m #[(.ref a1)] 1)) t := fun t k => castTop (ef_3 m a1) k
  obtain ⟨T1, X1, e1, st1⟩ := getF X0 hx hZ hown (host := "") (Or.inl (hw _ (List.mem_of_getElem? (i := 28) rfl))) Via.refl e0 F_ordinal_a1 (g := (mkF m 1 #[.val (.ref a1)] [(.ref a1)])) rfl rfl (hb hby d3_1)
  obtain ⟨fs, hr, hrun, hended, hW, hsame⟩ := X1.leave (v := some (.int ov)) (fun h => by rw [Bd.returns] at h; cases h) Bd.notSynchronized
  refine ⟨_, _, pre0 _ ?_, hrun, hended, _, _, rfl, ?_, ⟨_, rfl⟩, hW, hsame.mono (by decide) (by decide)⟩
  · show Steps p.tables e below (s₁.setTop (mkF m 0 #[.val (.ref a1)] [])) _
    refine XS.aloadN X0.here hx rfl (hb hby d3_0) rfl rfl ?_
    show Steps p.tables e below (s₁.setTop (mkF m 1 #[.val (.ref a1)] [(.ref a1)])) _
    refine st1 _ ?_
    show Steps p.tables e below (T1.setTop (mkF m 4 #[.val (.ref a1)] [(.int ov)])) _
    exact retI X1 hx Bd.returns (hb hby d3_4) hr
  · show Q3 Z a1 ov h0 n0 _ T1.heap _
    rw [e1]
    exact ⟨rfl, N0, rfl⟩
theorem d2_0 : decode prog_120_method_4_code 0 = .ok (.aload_n 0, 1) := by decide +kernel
theorem d2_1 : decode prog_120_method_4_code 1 = .ok (.invokevirtual 38, 3) := by decide +kernel
theorem pd_20 : parseMethodDescriptor "()I" = some ⟨[], some .int⟩ := by decide +kernel
theorem d2_4 : decode prog_120_method_4_code 4 = .ok (.tableswitch 36 0 4 #[46, 68, 90, 105, 105], 36) := by decide +kernel
theorem d2_50 : decode prog_120_method_4_code 50 = .ok (.aload_n 1, 1) := by decide +kernel
theorem d2_51 : decode prog_120_method_4_code 51 = .ok (.getstatic 7, 3) := by decide +kernel
theorem d2_54 : decode prog_120_method_4_code 54 = .ok (.if_acmp .eq 10, 3) := by decide +kernel
theorem d2_64 : decode prog_120_method_4_code 64 = .ok (.iconst 1, 1) := by decide +kernel
theorem d2_65 : decode prog_120_method_4_code 65 = .ok (.goto 45, 3) := by decide +kernel
theorem d2_110 : decode prog_120_method_4_code 110 = .ok (.ireturn, 1) := by decide +kernel
theorem d2_57 : decode prog_120_method_4_code 57 = .ok (.aload_n 1, 1) := by decide +kernel
theorem d2_58 : decode prog_120_method_4_code 58 = .ok (.getstatic 16, 3) := by decide +kernel
theorem d2_61 : decode prog_120_method_4_code 61 = .ok (.if_acmp .ne 7, 3) := by decide +kernel
theorem d2_68 : decode prog_120_method_4_code 68 = .ok (.iconst 0, 1) := by decide +kernel
theorem d2_69 : decode prog_120_method_4_code 69 = .ok (.goto 41, 3) := by decide +kernel
theorem ef_2 (m : MethodId) (x0 : Addr) (x1 : Addr) : entryFrame m #[(.ref x0), (.ref x1)] 2 = mkF m 0 #[.val (.ref x0), .val (.ref x1)] [] := by first | (simp [entryFrame, mkF, argsToLocals, Value.category]; done) | rfl
def f2 (a2 : Addr) (v_READY : Addr) (v_CANCELLED : Addr) : Int32 := if a2 = v_READY then (1 : Int32) else (if a2 = v_CANCELLED then (1 : Int32) else (0 : Int32))
def Q2 (Z : State) (a1 : Addr) (a2 : Addr) (v_READY : Addr) (v_CANCELLED : Addr) (h0 : Heap) (n0 : Nat) (v : Option Value) (h : Heap) (L : List Loc) : Prop := v = some (.int (f2 a2 v_READY v_CANCELLED)) ∧ Fr n0 L ∧ h = h0
set_option maxRecDepth 65536 in
set_option maxHeartbeats 40000000 in
theorem rm2 (l : Launch) (Z : State) (a0 : Array Value) (hw : ∀ d ∈ tables_1, d.before a0 Z = true) (ws : List Jvm.Cond) (a1 : Addr) (a2 : Addr) (v_READY : Addr) (v_CANCELLED : Addr) (h0 : Heap) (n0 : Nat) (Z0 : n0 ≤ h0.size) (E_a1 : Exa Z h0 a1 "com/example/indenture/indenture/status/RevenuePlanStatus") (F_ordinal_a1 : Fld Z h0 a1 "java/lang/Enum" "ordinal" "I" (.int (0 : Int32))) (S_READY : Sta Z h0 "com/example/indenture/indenture/status/RevenuePlanStatus" "READY" "Lcom/example/indenture/indenture/status/RevenuePlanStatus;" (.ref v_READY)) (S_CANCELLED : Sta Z h0 "com/example/indenture/indenture/status/RevenuePlanStatus" "CANCELLED" "Lcom/example/indenture/indenture/status/RevenuePlanStatus;" (.ref v_CANCELLED)) :
    MetFree l (⟨"com/example/indenture/indenture/status/RevenuePlanStatus", "canMoveTo", "(Lcom/example/indenture/indenture/status/RevenuePlanStatus;)Z"⟩ : MethodName) (head1 (Jvm.Cond.code (⟨"com/example/indenture/indenture/status/RevenuePlanStatus", "canMoveTo", "(Lcom/example/indenture/indenture/status/RevenuePlanStatus;)Z"⟩ : MethodName) prog_120_method_4_code 2 (some .boolean) :: ws) ({ frames := 1, cells := 0, slots := 0, locals := 12 } : Room)) (fun a U => a = #[(.ref a1), (.ref a2)] ∧ Z.Warmed39 U.vm ∧ U.heap = h0) (fun _ _ _ _ _ => True) (fun _ U o U' => ∃ v L, o = .returned v ∧ Q2 Z a1 a2 v_READY v_CANCELLED h0 n0 v U'.heap L ∧ FrameEnd U o U' L ({ frames := 1, cells := 0, slots := 0, locals := 12 } : Room).cells ({ frames := 1, cells := 0, slots := 0, locals := 12 } : Room).slots) := by
  refine MetFree.of_bodySF (plainFor_of_name pn_0) hisR ?_
  intro p e s m args below meth c s₁ Bd hml0 hP hK
  obtain ⟨rfl, hZ, hh⟩ := hP
  have hx := Bd.exec
  have hby := Bd.bytes
  have hml : c.maxLocals = 2 := hml0
  have hown : s.vm.findClass "com/example/indenture/indenture/status/RevenuePlanStatus" = some m.cls := findClass_of_methodNamed Bd.named
  have hnm := (name_of_methodNamed Bd.named Bd.method).1
  have X0 : Stand p l e ({ frames := 1, cells := 0, slots := 0, locals := 12 } : Room) s m #[(.ref a1), (.ref a2)] below meth c s₁ [] 0 0 := Stand.of_body Bd
  have e0 : s₁.heap = h0 := by rw [← hh, Bd.state]; rfl
  have N0 := Fr.nil n0
  have pre0 : ∀ t, Steps p.tables e below (s₁.setTop (mkF m 0 #[.val (.ref a1), .val (.ref a2)] [])) t → Steps p.tables e below (s₁.setTop (entryFrame m #[(.ref a1), (.ref a2)] 2)) t := fun t k => castTop (ef_2 m a1 a2) k
  -- pc 1: RevenuePlanStatus.ordinal by rm3
  obtain ⟨cq1, kq1, q1a, q1b, q1c⟩ := isOf hZ e0 E_a1
  obtain ⟨_, _, ⟨T1, L1, k1, n1⟩, -, X1, ⟨Lc1, hQ1, l1, y1, z1⟩, st1⟩ := X0.virtualBackUp hx (owner := "java/lang/Enum") (x := (⟨"com/example/indenture/indenture/status/RevenuePlanStatus", "ordinal", "()I"⟩ : MethodName)) (y := (⟨"java/lang/Enum", "ordinal", "()I"⟩ : MethodName)) hown (mvT hZ (hw _ (List.mem_of_getElem? (i := 21) rfl))) (mvT hZ (hw _ (List.mem_of_getElem? (i := 22) rfl))) (mvT hZ (hw _ (List.mem_of_getElem? (i := 23) rfl))) (by decide) (mvT hZ (hw _ (List.mem_of_getElem? (i := 25) rfl))) (mvT hZ (hw _ (List.mem_of_getElem? (i := 24) rfl))) (backOf (W := 0) (rm3 l Z a0 hw [] a1 (0 : Int32) h0 n0 Z0 F_ordinal_a1) hZ (hw _ (List.mem_of_getElem? (i := 27) rfl)) (hw _ (List.mem_of_getElem? (i := 26) rfl)) (by decide) (by decide)) q1a q1c (g := (mkF m 1 #[.val (.ref a1), .val (.ref a2)] [(.ref a1)])) rfl (by rw [hml]; rfl) (Steps.refl _) (argsL := []) (rest := []) (lenOf pd_20 rfl) rfl (by show 2 * 0 + _ ≤ _; exact Nat.le_of_eq rfl) (hb hby d2_1) (fun _ _ => ⟨rfl, e0, (by decide : 0 + 0 ≤ _), (by decide : 0 + 0 ≤ _)⟩)
  dsimp only [Pt.U, Pt.locs, Pt.cells, Pt.slots] at X1 l1 y1 z1 st1 hQ1
  subst l1 y1 z1
  obtain ⟨rfl, N1q, e1⟩ := hQ1
  have N2 := Fr.app N0 N1q
  obtain ⟨T3, X3, e3, st3⟩ := getS2 X1 hx hZ hown (host := "") (Or.inl (hw _ (List.mem_of_getElem? (i := 12) rfl))) Via.refl e1 S_READY (g := (mkF m 51 #[.val (.ref a1), .val (.ref a2)] [(.ref a2)])) rfl (hb hby d2_51)
  have pre4 : ∀ t, Steps p.tables e below (T3.setTop (mkF m 54 #[.val (.ref a1), .val (.ref a2)] [(.ref v_READY), (.ref a2)])) t → Steps p.tables e below (s₁.setTop (entryFrame m #[(.ref a1), (.ref a2)] 2)) t := fun t k => pre0 t (by
    show Steps p.tables e below (s₁.setTop (mkF m 0 #[.val (.ref a1), .val (.ref a2)] [])) _
    refine XS.aloadN X0.here hx rfl (hb hby d2_0) rfl rfl ?_
    show Steps p.tables e below (s₁.setTop (mkF m 1 #[.val (.ref a1), .val (.ref a2)] [(.ref a1)])) _
    refine st1.trans ?_
    show Steps p.tables e below (T1.setTop (mkF m 4 #[.val (.ref a1), .val (.ref a2)] [(.int (0 : Int32))])) _
    refine XS.tswIn X1.here hx rfl (pc0 := 4) (pc' := 50) rfl (hb hby d2_4) rfl (by decide) (o := 46) (by rfl) (by decide) (by decide) ?_
    show Steps p.tables e below (T1.setTop (mkF m 50 #[.val (.ref a1), .val (.ref a2)] [])) _
    refine XS.aloadN X1.here hx rfl (hb hby d2_50) rfl rfl ?_
    show Steps p.tables e below (T1.setTop (mkF m 51 #[.val (.ref a1), .val (.ref a2)] [(.ref a2)])) _
    refine st3 _ ?_
    exact k)
  by_cases hc5 : a2 = v_READY
  ·  -- pc 54: a2 = v_READY
    obtain ⟨fs, hr, hrun, hended, hW, hsame⟩ := X3.leave (v := some (.int (1 : Int32))) (fun h => by rw [Bd.returns] at h; cases h) Bd.notSynchronized
    refine ⟨_, _, pre4 _ ?_, hrun, hended, _, _, rfl, ?_, ⟨_, rfl⟩, hW, hsame.mono (by decide) (by decide)⟩
    · show Steps p.tables e below (T3.setTop (mkF m 54 #[.val (.ref a1), .val (.ref a2)] [(.ref v_READY), (.ref a2)])) _
      refine Jvm.RoadKit.acmp (g := (mkF m 54 #[.val (.ref a1), .val (.ref a2)] [(.ref v_READY), (.ref a2)])) X3 hx rfl rfl rfl (pc0 := 54) (pc' := 64) (same := true) rfl (hb hby d2_54) rfl (decide_eq_true (congrArg Value.ref hc5)) (by decide) (by decide) ?_
      show Steps p.tables e below (T3.setTop (mkF m 64 #[.val (.ref a1), .val (.ref a2)] [])) _
      refine XS.iconst X3.here hx rfl (hb hby d2_64) ?_
      show Steps p.tables e below (T3.setTop (mkF m 65 #[.val (.ref a1), .val (.ref a2)] [(.int (1 : Int32))])) _
      refine XS.goto X3.here hx rfl (pc0 := 65) (pc' := 110) rfl (hb hby d2_65) (by decide) (by decide) ?_
      show Steps p.tables e below (T3.setTop (mkF m 110 #[.val (.ref a1), .val (.ref a2)] [(.int (1 : Int32))])) _
      exact retN X3 hx (t := .boolean) Bd.returns (by simp) (hb hby d2_110) hr
    · show Q2 Z a1 a2 v_READY v_CANCELLED h0 n0 _ T3.heap _
      rw [e3]
      exact ⟨(by unfold f2; rw [if_pos hc5]), N2, rfl⟩
  ·  -- pc 54: not a2 = v_READY
    obtain ⟨T6, X6, e6, st6⟩ := getS2 X3 hx hZ hown (host := "") (Or.inl (hw _ (List.mem_of_getElem? (i := 14) rfl))) Via.refl e3 S_CANCELLED (g := (mkF m 58 #[.val (.ref a1), .val (.ref a2)] [(.ref a2)])) rfl (hb hby d2_58)
    have pre7 : ∀ t, Steps p.tables e below (T6.setTop (mkF m 61 #[.val (.ref a1), .val (.ref a2)] [(.ref v_CANCELLED), (.ref a2)])) t → Steps p.tables e below (s₁.setTop (entryFrame m #[(.ref a1), (.ref a2)] 2)) t := fun t k => pre4 t (by
      show Steps p.tables e below (T3.setTop (mkF m 54 #[.val (.ref a1), .val (.ref a2)] [(.ref v_READY), (.ref a2)])) _
      refine Jvm.RoadKit.acmp (g := (mkF m 54 #[.val (.ref a1), .val (.ref a2)] [(.ref v_READY), (.ref a2)])) X3 hx rfl rfl rfl (pc0 := 54) (pc' := 57) (same := false) rfl (hb hby d2_54) rfl (decide_eq_false fun q => hc5 (Value.ref.inj q)) (by decide) (by decide) ?_
      show Steps p.tables e below (T3.setTop (mkF m 57 #[.val (.ref a1), .val (.ref a2)] [])) _
      refine XS.aloadN X3.here hx rfl (hb hby d2_57) rfl rfl ?_
      show Steps p.tables e below (T3.setTop (mkF m 58 #[.val (.ref a1), .val (.ref a2)] [(.ref a2)])) _
      refine st6 _ ?_
      exact k)
    by_cases hc8 : a2 = v_CANCELLED
    ·  -- pc 61: a2 = v_CANCELLED
      obtain ⟨fs, hr, hrun, hended, hW, hsame⟩ := X6.leave (v := some (.int (1 : Int32))) (fun h => by rw [Bd.returns] at h; cases h) Bd.notSynchronized
      refine ⟨_, _, pre7 _ ?_, hrun, hended, _, _, rfl, ?_, ⟨_, rfl⟩, hW, hsame.mono (by decide) (by decide)⟩
      · show Steps p.tables e below (T6.setTop (mkF m 61 #[.val (.ref a1), .val (.ref a2)] [(.ref v_CANCELLED), (.ref a2)])) _
        refine Jvm.RoadKit.acmp (g := (mkF m 61 #[.val (.ref a1), .val (.ref a2)] [(.ref v_CANCELLED), (.ref a2)])) X6 hx rfl rfl rfl (pc0 := 61) (pc' := 64) (same := true) rfl (hb hby d2_61) rfl (decide_eq_true (congrArg Value.ref hc8)) (by decide) (by decide) ?_
        show Steps p.tables e below (T6.setTop (mkF m 64 #[.val (.ref a1), .val (.ref a2)] [])) _
        refine XS.iconst X6.here hx rfl (hb hby d2_64) ?_
        show Steps p.tables e below (T6.setTop (mkF m 65 #[.val (.ref a1), .val (.ref a2)] [(.int (1 : Int32))])) _
        refine XS.goto X6.here hx rfl (pc0 := 65) (pc' := 110) rfl (hb hby d2_65) (by decide) (by decide) ?_
        show Steps p.tables e below (T6.setTop (mkF m 110 #[.val (.ref a1), .val (.ref a2)] [(.int (1 : Int32))])) _
        exact retN X6 hx (t := .boolean) Bd.returns (by simp) (hb hby d2_110) hr
      · show Q2 Z a1 a2 v_READY v_CANCELLED h0 n0 _ T6.heap _
        rw [e6]
        exact ⟨(by unfold f2; rw [if_neg hc5, if_pos hc8]), N2, rfl⟩
    ·  -- pc 61: not a2 = v_CANCELLED
      obtain ⟨fs, hr, hrun, hended, hW, hsame⟩ := X6.leave (v := some (.int (0 : Int32))) (fun h => by rw [Bd.returns] at h; cases h) Bd.notSynchronized
      refine ⟨_, _, pre7 _ ?_, hrun, hended, _, _, rfl, ?_, ⟨_, rfl⟩, hW, hsame.mono (by decide) (by decide)⟩
      · show Steps p.tables e below (T6.setTop (mkF m 61 #[.val (.ref a1), .val (.ref a2)] [(.ref v_CANCELLED), (.ref a2)])) _
        refine Jvm.RoadKit.acmp (g := (mkF m 61 #[.val (.ref a1), .val (.ref a2)] [(.ref v_CANCELLED), (.ref a2)])) X6 hx rfl rfl rfl (pc0 := 61) (pc' := 68) (same := false) rfl (hb hby d2_61) rfl (decide_eq_false fun q => hc8 (Value.ref.inj q)) (by decide) (by decide) ?_
        show Steps p.tables e below (T6.setTop (mkF m 68 #[.val (.ref a1), .val (.ref a2)] [])) _
        refine XS.iconst X6.here hx rfl (hb hby d2_68) ?_
        show Steps p.tables e below (T6.setTop (mkF m 69 #[.val (.ref a1), .val (.ref a2)] [(.int (0 : Int32))])) _
        refine XS.goto X6.here hx rfl (pc0 := 69) (pc' := 110) rfl (hb hby d2_69) (by decide) (by decide) ?_
        show Steps p.tables e below (T6.setTop (mkF m 110 #[.val (.ref a1), .val (.ref a2)] [(.int (0 : Int32))])) _
        exact retN X6 hx (t := .boolean) Bd.returns (by simp) (hb hby d2_110) hr
      · show Q2 Z a1 a2 v_READY v_CANCELLED h0 n0 _ T6.heap _
        rw [e6]
        exact ⟨(by unfold f2; rw [if_neg hc5, if_neg hc8]), N2, rfl⟩
theorem pn_33 : plainName "com/example/indenture/indenture/status/RevenuePlanStatusIsSetByHandPinLaw" = true := by first | (simp [plainName, overriddenIn]; done) | decide +kernel
theorem pd_34 : parseMethodDescriptor "()Z" = some ⟨[], some .boolean⟩ := by decide +kernel
theorem pd_35 : parseMethodDescriptor "(Lcom/example/indenture/indenture/status/RevenuePlanStatus;)Z" = some ⟨[(.object "com/example/indenture/indenture/status/RevenuePlanStatus")], some .boolean⟩ := by decide +kernel
theorem ef_0 (m : MethodId) (x0 : Int32) : entryFrame m #[(.int x0)] maxLocals = mkF m 0 #[.val (.int x0), .unset, .unset, .unset, .unset, .unset] [] := by first | (simp [entryFrame, mkF, argsToLocals, Value.category, maxLocals]; done) | rfl
def f0 (p1 : Int32) (w_PENDING : Addr) (w_COMPLETED : Addr) (w_READY : Addr) (w_CANCELLED : Addr) (w_IN_PROGRESS : Addr) : Int32 := if ((p1 &&& (2147483647 : Int32)) % (5 : Int32)) = (0 : Int32) then (if (f1 w_PENDING w_PENDING w_READY w_CANCELLED) = (1 : Int32) then (1 : Int32) else (0 : Int32)) else (if ((p1 &&& (2147483647 : Int32)) % (5 : Int32)) = (1 : Int32) then (if (f2 w_READY w_READY w_CANCELLED) = (0 : Int32) then (if (f1 w_READY w_PENDING w_READY w_CANCELLED) = (1 : Int32) then (if (f1 w_READY w_PENDING w_READY w_CANCELLED) = (0 : Int32) then (1 : Int32) else (0 : Int32)) else (0 : Int32)) else (if (f1 w_READY w_PENDING w_READY w_CANCELLED) = (1 : Int32) then (1 : Int32) else (0 : Int32))) else (if ((p1 &&& (2147483647 : Int32)) % (5 : Int32)) = (2 : Int32) then (if (f2 w_IN_PROGRESS w_READY w_CANCELLED) = (0 : Int32) then (if (f1 w_IN_PROGRESS w_PENDING w_READY w_CANCELLED) = (0 : Int32) then (1 : Int32) else (0 : Int32)) else (if (f1 w_IN_PROGRESS w_PENDING w_READY w_CANCELLED) = (0 : Int32) then (if (f1 w_IN_PROGRESS w_PENDING w_READY w_CANCELLED) = (1 : Int32) then (1 : Int32) else (0 : Int32)) else (0 : Int32))) else (if ((p1 &&& (2147483647 : Int32)) % (5 : Int32)) = (3 : Int32) then (if (f2 w_COMPLETED w_READY w_CANCELLED) = (0 : Int32) then (if (f1 w_COMPLETED w_PENDING w_READY w_CANCELLED) = (0 : Int32) then (1 : Int32) else (0 : Int32)) else (if (f1 w_COMPLETED w_PENDING w_READY w_CANCELLED) = (0 : Int32) then (if (f1 w_COMPLETED w_PENDING w_READY w_CANCELLED) = (1 : Int32) then (1 : Int32) else (0 : Int32)) else (0 : Int32))) else (if (f2 w_CANCELLED w_READY w_CANCELLED) = (0 : Int32) then (if (f1 w_CANCELLED w_PENDING w_READY w_CANCELLED) = (1 : Int32) then (if (f1 w_CANCELLED w_PENDING w_READY w_CANCELLED) = (0 : Int32) then (1 : Int32) else (0 : Int32)) else (0 : Int32)) else (if (f1 w_CANCELLED w_PENDING w_READY w_CANCELLED) = (1 : Int32) then (1 : Int32) else (0 : Int32))))))
def Q0 (Z : State) (p1 : Int32) (w_PENDING : Addr) (w_COMPLETED : Addr) (w_READY : Addr) (w_CANCELLED : Addr) (w_IN_PROGRESS : Addr) (h0 : Heap) (n0 : Nat) (v : Option Value) (h : Heap) (L : List Loc) : Prop := v = some (.int (f0 p1 w_PENDING w_COMPLETED w_READY w_CANCELLED w_IN_PROGRESS)) ∧ Fr n0 L
set_option maxRecDepth 65536 in
set_option maxHeartbeats 40000000 in
theorem rm0 (l : Launch) (Z : State) (a0 : Array Value) (hw : ∀ d ∈ tables_1, d.before a0 Z = true) (ws : List Jvm.Cond) (p1 : Int32) (w_PENDING : Addr) (w_COMPLETED : Addr) (w_READY : Addr) (w_CANCELLED : Addr) (w_IN_PROGRESS : Addr) (h0 : Heap) (n0 : Nat) (Z0 : n0 ≤ h0.size) (O0 : Old Z n0 h0) (S_PENDING : Sta Z Z.heap "com/example/indenture/indenture/status/RevenuePlanStatus" "PENDING" "Lcom/example/indenture/indenture/status/RevenuePlanStatus;" (.ref w_PENDING)) (S_COMPLETED : Sta Z Z.heap "com/example/indenture/indenture/status/RevenuePlanStatus" "COMPLETED" "Lcom/example/indenture/indenture/status/RevenuePlanStatus;" (.ref w_COMPLETED)) (S_READY : Sta Z Z.heap "com/example/indenture/indenture/status/RevenuePlanStatus" "READY" "Lcom/example/indenture/indenture/status/RevenuePlanStatus;" (.ref w_READY)) (S_CANCELLED : Sta Z Z.heap "com/example/indenture/indenture/status/RevenuePlanStatus" "CANCELLED" "Lcom/example/indenture/indenture/status/RevenuePlanStatus;" (.ref w_CANCELLED)) (S_IN_PROGRESS : Sta Z Z.heap "com/example/indenture/indenture/status/RevenuePlanStatus" "IN_PROGRESS" "Lcom/example/indenture/indenture/status/RevenuePlanStatus;" (.ref w_IN_PROGRESS)) (E_w_PENDING : Exa Z Z.heap w_PENDING "com/example/indenture/indenture/status/RevenuePlanStatus") (E_w_COMPLETED : Exa Z Z.heap w_COMPLETED "com/example/indenture/indenture/status/RevenuePlanStatus") (E_w_READY : Exa Z Z.heap w_READY "com/example/indenture/indenture/status/RevenuePlanStatus") (E_w_CANCELLED : Exa Z Z.heap w_CANCELLED "com/example/indenture/indenture/status/RevenuePlanStatus") (E_w_IN_PROGRESS : Exa Z Z.heap w_IN_PROGRESS "com/example/indenture/indenture/status/RevenuePlanStatus") (F_ordinal_w_COMPLETED : Fld Z Z.heap w_COMPLETED "java/lang/Enum" "ordinal" "I" (.int (3 : Int32))) (F_ordinal_w_PENDING : Fld Z Z.heap w_PENDING "java/lang/Enum" "ordinal" "I" (.int (0 : Int32))) (F_ordinal_w_READY : Fld Z Z.heap w_READY "java/lang/Enum" "ordinal" "I" (.int (1 : Int32))) (F_ordinal_w_CANCELLED : Fld Z Z.heap w_CANCELLED "java/lang/Enum" "ordinal" "I" (.int (4 : Int32))) (F_ordinal_w_IN_PROGRESS : Fld Z Z.heap w_IN_PROGRESS "java/lang/Enum" "ordinal" "I" (.int (2 : Int32))) (ne_w_READY_w_PENDING : w_READY ≠ w_PENDING) (ne_w_IN_PROGRESS_w_PENDING : w_IN_PROGRESS ≠ w_PENDING) (ne_w_COMPLETED_w_PENDING : w_COMPLETED ≠ w_PENDING) (ne_w_CANCELLED_w_PENDING : w_CANCELLED ≠ w_PENDING) (ne_w_IN_PROGRESS_w_READY : w_IN_PROGRESS ≠ w_READY) (ne_w_COMPLETED_w_READY : w_COMPLETED ≠ w_READY) (ne_w_CANCELLED_w_READY : w_CANCELLED ≠ w_READY) (ne_w_IN_PROGRESS_w_CANCELLED : w_IN_PROGRESS ≠ w_CANCELLED) (ne_w_COMPLETED_w_CANCELLED : w_COMPLETED ≠ w_CANCELLED) :
    MetFree l x (head1 (Jvm.Cond.code x code maxLocals ret :: ws) room_1) (fun a U => a = #[(.int p1)] ∧ Z.Warmed39 U.vm ∧ U.heap = h0) (fun _ _ _ _ _ => True) (fun _ U o U' => ∃ v L, o = .returned v ∧ Q0 Z p1 w_PENDING w_COMPLETED w_READY w_CANCELLED w_IN_PROGRESS h0 n0 v U'.heap L ∧ FrameEnd U o U' L room_1.cells room_1.slots) := by
  refine MetFree.of_bodySF (plainFor_of_name pn_33) hisR ?_
  intro p e s m args below meth c s₁ Bd hml0 hP hK
  obtain ⟨rfl, hZ, hh⟩ := hP
  have hx := Bd.exec
  have hby := Bd.bytes
  have hml : c.maxLocals = 6 := hml0
  have hown : s.vm.findClass "com/example/indenture/indenture/status/RevenuePlanStatusIsSetByHandPinLaw" = some m.cls := findClass_of_methodNamed Bd.named
  have hnm := (name_of_methodNamed Bd.named Bd.method).1
  have X0 : Stand p l e room_1 s m #[(.int p1)] below meth c s₁ [] 0 0 := Stand.of_body Bd
  have e0 : s₁.heap = h0 := by rw [← hh, Bd.state]; rfl
  have N0 := Fr.nil n0
  have pre0 : ∀ t, Steps p.tables e below (s₁.setTop (mkF m 0 #[.val (.int p1), .unset, .unset, .unset, .unset, .unset] [])) t → Steps p.tables e below (s₁.setTop (entryFrame m #[(.int p1)] maxLocals)) t := fun t k => castTop (ef_0 m p1) k
  have pre1 : ∀ t, Steps p.tables e below (s₁.setTop (mkF m 8 #[.val (.int p1), .val (.int ((p1 &&& (2147483647 : Int32)) % (5 : Int32))), .unset, .unset, .unset, .unset] [(.int ((p1 &&& (2147483647 : Int32)) % (5 : Int32)))])) t → Steps p.tables e below (s₁.setTop (entryFrame m #[(.int p1)] maxLocals)) t := fun t k => pre0 t (by
    show Steps p.tables e below (s₁.setTop (mkF m 0 #[.val (.int p1), .unset, .unset, .unset, .unset, .unset] [])) _
    refine XS.iloadN X0.here hx rfl (hb hby at_0) rfl ?_
    show Steps p.tables e below (s₁.setTop (mkF m 1 #[.val (.int p1), .unset, .unset, .unset, .unset, .unset] [(.int p1)])) _
    refine X0.ldcInt hx hown (mvT hZ (hw _ (List.mem_of_getElem? (i := 0) rfl))) (g := (mkF m 1 #[.val (.int p1), .unset, .unset, .unset, .unset, .unset] [(.int p1)])) rfl (hb hby at_1) _ ?_
    show Steps p.tables e below (s₁.setTop (mkF m 3 #[.val (.int p1), .unset, .unset, .unset, .unset, .unset] [(.int (2147483647 : Int32)), (.int p1)])) _
    refine XS.iand X0.here hx rfl (hb hby at_3) rfl ?_
    show Steps p.tables e below (s₁.setTop (mkF m 4 #[.val (.int p1), .unset, .unset, .unset, .unset, .unset] [(.int (p1 &&& (2147483647 : Int32)))])) _
    refine XS.iconst X0.here hx rfl (hb hby at_4) ?_
    show Steps p.tables e below (s₁.setTop (mkF m 5 #[.val (.int p1), .unset, .unset, .unset, .unset, .unset] [(.int (5 : Int32)), (.int (p1 &&& (2147483647 : Int32)))])) _
    refine iremM X0 hx rfl (hb hby at_5) rfl (by decide) ?_
    show Steps p.tables e below (s₁.setTop (mkF m 6 #[.val (.int p1), .unset, .unset, .unset, .unset, .unset] [(.int ((p1 &&& (2147483647 : Int32)) % (5 : Int32)))])) _
    refine XS.istoreN X0.here hx rfl (hb hby at_6) rfl (l' := #[.val (.int p1), .val (.int ((p1 &&& (2147483647 : Int32)) % (5 : Int32))), .unset, .unset, .unset, .unset]) rfl ?_
    show Steps p.tables e below (s₁.setTop (mkF m 7 #[.val (.int p1), .val (.int ((p1 &&& (2147483647 : Int32)) % (5 : Int32))), .unset, .unset, .unset, .unset] [])) _
    refine XS.iloadN X0.here hx rfl (hb hby at_7) rfl ?_
    exact k)
  by_cases hc2 : ((p1 &&& (2147483647 : Int32)) % (5 : Int32)) = (0 : Int32)
  ·  -- pc 8: ((p1 &&& (2147483647 : Int32)) % (5 : Int32)) = (0 : Int32)
    obtain ⟨T3, X3, e3, st3⟩ := getS2 X0 hx hZ hown (host := "") (Or.inl (hw _ (List.mem_of_getElem? (i := 1) rfl))) Via.refl e0 (S_PENDING.ext O0.2) (g := (mkF m 11 #[.val (.int p1), .val (.int ((p1 &&& (2147483647 : Int32)) % (5 : Int32))), .unset, .unset, .unset, .unset] [])) rfl (hb hby at_11)
    -- pc 69: RevenuePlanStatus.isSetByHand by rm1
    obtain ⟨cq4, kq4, q4a, q4b, q4c⟩ := isOf hZ e3 (E_w_PENDING.ext O0.2)
    obtain ⟨_, _, ⟨T4, L4, k4, n4⟩, -, X4, ⟨Lc4, hQ4, l4, y4, z4⟩, st4⟩ := X3.virtualBack hx (y := (⟨"com/example/indenture/indenture/status/RevenuePlanStatus", "isSetByHand", "()Z"⟩ : MethodName)) (z := (⟨"com/example/indenture/indenture/status/RevenuePlanStatus", "isSetByHand", "()Z"⟩ : MethodName)) hown (mvT hZ (hw _ (List.mem_of_getElem? (i := 4) rfl))) (mvT hZ (hw _ (List.mem_of_getElem? (i := 5) rfl))) (notFace_of_selects (args := #[]) (mvT hZ (hw _ (List.mem_of_getElem? (i := 7) rfl)))) (mvT hZ (hw _ (List.mem_of_getElem? (i := 7) rfl))) (mvT hZ (hw _ (List.mem_of_getElem? (i := 6) rfl))) (by decide) (backOf (W := 0) (rm1 l Z a0 hw [] w_PENDING w_PENDING w_READY w_CANCELLED h0 n0 Z0 (S_PENDING.ext O0.2) (S_READY.ext O0.2) (S_CANCELLED.ext O0.2)) hZ (hw _ (List.mem_of_getElem? (i := 8) rfl)) (hw _ (List.mem_of_getElem? (i := 2) rfl)) (by decide) (by decide)) q4a q4c (g := (mkF m 69 #[.val (.int p1), .val (.int ((p1 &&& (2147483647 : Int32)) % (5 : Int32))), .val (.ref w_PENDING), .val (.int (1 : Int32)), .unset, .unset] [(.ref w_PENDING)])) rfl (by rw [hml]; rfl) (Steps.refl _) (argsL := []) (rest := []) (lenOf pd_34 rfl) rfl (by show 2 * 0 + _ ≤ _; exact Nat.le_of_eq rfl) (hb hby at_69) (fun _ _ => ⟨rfl, e3, (by decide : 0 + 0 ≤ _), (by decide : 0 + 0 ≤ _)⟩)
    dsimp only [Pt.U, Pt.locs, Pt.cells, Pt.slots] at X4 l4 y4 z4 st4 hQ4
    subst l4 y4 z4
    obtain ⟨rfl, N4q, e4⟩ := hQ4
    have N5 := Fr.app N0 N4q
    obtain ⟨T6, X6, e6, st6⟩ := getS2 X4 hx hZ hown (host := "") (Or.inl (hw _ (List.mem_of_getElem? (i := 1) rfl))) Via.refl e4 (S_PENDING.ext O0.2) (g := (mkF m 75 #[.val (.int p1), .val (.int ((p1 &&& (2147483647 : Int32)) % (5 : Int32))), .val (.ref w_PENDING), .val (.int (1 : Int32)), .val (.int (f1 w_PENDING w_PENDING w_READY w_CANCELLED)), .unset] [(.ref w_PENDING)])) rfl (hb hby at_75)
    have pre7 : ∀ t, Steps p.tables e below (T6.setTop (mkF m 101 #[.val (.int p1), .val (.int ((p1 &&& (2147483647 : Int32)) % (5 : Int32))), .val (.ref w_PENDING), .val (.int (1 : Int32)), .val (.int (f1 w_PENDING w_PENDING w_READY w_CANCELLED)), .val (.int (1 : Int32))] [(.int (1 : Int32)), (.int (f1 w_PENDING w_PENDING w_READY w_CANCELLED))])) t → Steps p.tables e below (s₁.setTop (entryFrame m #[(.int p1)] maxLocals)) t := fun t k => pre1 t (by
      show Steps p.tables e below (s₁.setTop (mkF m 8 #[.val (.int p1), .val (.int ((p1 &&& (2147483647 : Int32)) % (5 : Int32))), .unset, .unset, .unset, .unset] [(.int ((p1 &&& (2147483647 : Int32)) % (5 : Int32)))])) _
      refine XS.ifNo X0.here hx rfl (hb hby at_8) rfl ((if0 _ _).trans (teq hc2).2) ?_
      show Steps p.tables e below (s₁.setTop (mkF m 11 #[.val (.int p1), .val (.int ((p1 &&& (2147483647 : Int32)) % (5 : Int32))), .unset, .unset, .unset, .unset] [])) _
      refine st3 _ ?_
      show Steps p.tables e below (T3.setTop (mkF m 14 #[.val (.int p1), .val (.int ((p1 &&& (2147483647 : Int32)) % (5 : Int32))), .unset, .unset, .unset, .unset] [(.ref w_PENDING)])) _
      refine XS.astoreN X3.here hx rfl (hb hby at_14) rfl rfl (l' := #[.val (.int p1), .val (.int ((p1 &&& (2147483647 : Int32)) % (5 : Int32))), .val (.ref w_PENDING), .unset, .unset, .unset]) rfl ?_
      show Steps p.tables e below (T3.setTop (mkF m 15 #[.val (.int p1), .val (.int ((p1 &&& (2147483647 : Int32)) % (5 : Int32))), .val (.ref w_PENDING), .unset, .unset, .unset] [])) _
      refine XS.iconst X3.here hx rfl (hb hby at_15) ?_
      show Steps p.tables e below (T3.setTop (mkF m 16 #[.val (.int p1), .val (.int ((p1 &&& (2147483647 : Int32)) % (5 : Int32))), .val (.ref w_PENDING), .unset, .unset, .unset] [(.int (1 : Int32))])) _
      refine XS.istoreN X3.here hx rfl (hb hby at_16) rfl (l' := #[.val (.int p1), .val (.int ((p1 &&& (2147483647 : Int32)) % (5 : Int32))), .val (.ref w_PENDING), .val (.int (1 : Int32)), .unset, .unset]) rfl ?_
      show Steps p.tables e below (T3.setTop (mkF m 17 #[.val (.int p1), .val (.int ((p1 &&& (2147483647 : Int32)) % (5 : Int32))), .val (.ref w_PENDING), .val (.int (1 : Int32)), .unset, .unset] [])) _
      refine XS.goto X3.here hx rfl (pc0 := 17) (pc' := 68) rfl (hb hby at_17) (by decide) (by decide) ?_
      show Steps p.tables e below (T3.setTop (mkF m 68 #[.val (.int p1), .val (.int ((p1 &&& (2147483647 : Int32)) % (5 : Int32))), .val (.ref w_PENDING), .val (.int (1 : Int32)), .unset, .unset] [])) _
      refine XS.aloadN X3.here hx rfl (hb hby at_68) rfl rfl ?_
      show Steps p.tables e below (T3.setTop (mkF m 69 #[.val (.int p1), .val (.int ((p1 &&& (2147483647 : Int32)) % (5 : Int32))), .val (.ref w_PENDING), .val (.int (1 : Int32)), .unset, .unset] [(.ref w_PENDING)])) _
      refine st4.trans ?_
      show Steps p.tables e below (T4.setTop (mkF m 72 #[.val (.int p1), .val (.int ((p1 &&& (2147483647 : Int32)) % (5 : Int32))), .val (.ref w_PENDING), .val (.int (1 : Int32)), .unset, .unset] [(.int (f1 w_PENDING w_PENDING w_READY w_CANCELLED))])) _
      refine XS.istore X4.here hx rfl (hb hby at_72) rfl (l' := #[.val (.int p1), .val (.int ((p1 &&& (2147483647 : Int32)) % (5 : Int32))), .val (.ref w_PENDING), .val (.int (1 : Int32)), .val (.int (f1 w_PENDING w_PENDING w_READY w_CANCELLED)), .unset]) rfl ?_
      show Steps p.tables e below (T4.setTop (mkF m 74 #[.val (.int p1), .val (.int ((p1 &&& (2147483647 : Int32)) % (5 : Int32))), .val (.ref w_PENDING), .val (.int (1 : Int32)), .val (.int (f1 w_PENDING w_PENDING w_READY w_CANCELLED)), .unset] [])) _
      refine XS.aloadN X4.here hx rfl (hb hby at_74) rfl rfl ?_
      show Steps p.tables e below (T4.setTop (mkF m 75 #[.val (.int p1), .val (.int ((p1 &&& (2147483647 : Int32)) % (5 : Int32))), .val (.ref w_PENDING), .val (.int (1 : Int32)), .val (.int (f1 w_PENDING w_PENDING w_READY w_CANCELLED)), .unset] [(.ref w_PENDING)])) _
      refine st6 _ ?_
      show Steps p.tables e below (T6.setTop (mkF m 78 #[.val (.int p1), .val (.int ((p1 &&& (2147483647 : Int32)) % (5 : Int32))), .val (.ref w_PENDING), .val (.int (1 : Int32)), .val (.int (f1 w_PENDING w_PENDING w_READY w_CANCELLED)), .unset] [(.ref w_PENDING), (.ref w_PENDING)])) _
      refine Jvm.RoadKit.acmp (g := (mkF m 78 #[.val (.int p1), .val (.int ((p1 &&& (2147483647 : Int32)) % (5 : Int32))), .val (.ref w_PENDING), .val (.int (1 : Int32)), .val (.int (f1 w_PENDING w_PENDING w_READY w_CANCELLED)), .unset] [(.ref w_PENDING), (.ref w_PENDING)])) X6 hx rfl rfl rfl (pc0 := 78) (pc' := 91) (same := true) rfl (hb hby at_78) rfl (decide_eq_true (congrArg Value.ref (rfl : w_PENDING = w_PENDING))) (by decide) (by decide) ?_
      show Steps p.tables e below (T6.setTop (mkF m 91 #[.val (.int p1), .val (.int ((p1 &&& (2147483647 : Int32)) % (5 : Int32))), .val (.ref w_PENDING), .val (.int (1 : Int32)), .val (.int (f1 w_PENDING w_PENDING w_READY w_CANCELLED)), .unset] [])) _
      refine XS.iconst X6.here hx rfl (hb hby at_91) ?_
      show Steps p.tables e below (T6.setTop (mkF m 92 #[.val (.int p1), .val (.int ((p1 &&& (2147483647 : Int32)) % (5 : Int32))), .val (.ref w_PENDING), .val (.int (1 : Int32)), .val (.int (f1 w_PENDING w_PENDING w_READY w_CANCELLED)), .unset] [(.int (1 : Int32))])) _
      refine XS.goto X6.here hx rfl (pc0 := 92) (pc' := 96) rfl (hb hby at_92) (by decide) (by decide) ?_
      show Steps p.tables e below (T6.setTop (mkF m 96 #[.val (.int p1), .val (.int ((p1 &&& (2147483647 : Int32)) % (5 : Int32))), .val (.ref w_PENDING), .val (.int (1 : Int32)), .val (.int (f1 w_PENDING w_PENDING w_READY w_CANCELLED)), .unset] [(.int (1 : Int32))])) _
      refine XS.istore X6.here hx rfl (hb hby at_96) rfl (l' := #[.val (.int p1), .val (.int ((p1 &&& (2147483647 : Int32)) % (5 : Int32))), .val (.ref w_PENDING), .val (.int (1 : Int32)), .val (.int (f1 w_PENDING w_PENDING w_READY w_CANCELLED)), .val (.int (1 : Int32))]) rfl ?_
      show Steps p.tables e below (T6.setTop (mkF m 98 #[.val (.int p1), .val (.int ((p1 &&& (2147483647 : Int32)) % (5 : Int32))), .val (.ref w_PENDING), .val (.int (1 : Int32)), .val (.int (f1 w_PENDING w_PENDING w_READY w_CANCELLED)), .val (.int (1 : Int32))] [])) _
      refine XS.iload X6.here hx rfl (hb hby at_98) rfl ?_
      show Steps p.tables e below (T6.setTop (mkF m 100 #[.val (.int p1), .val (.int ((p1 &&& (2147483647 : Int32)) % (5 : Int32))), .val (.ref w_PENDING), .val (.int (1 : Int32)), .val (.int (f1 w_PENDING w_PENDING w_READY w_CANCELLED)), .val (.int (1 : Int32))] [(.int (f1 w_PENDING w_PENDING w_READY w_CANCELLED))])) _
      refine XS.iloadN X6.here hx rfl (hb hby at_100) rfl ?_
      exact k)
    by_cases hc8 : (f1 w_PENDING w_PENDING w_READY w_CANCELLED) = (1 : Int32)
    ·  -- pc 101: (f1 w_PENDING w_PENDING w_READY w_CANCELLED) = (1 : Int32)
      obtain ⟨fs, hr, hrun, hended, hW, hsame⟩ := X6.leave (v := some (.int (1 : Int32))) (fun h => by rw [Bd.returns] at h; cases h) Bd.notSynchronized
      refine ⟨_, _, pre7 _ ?_, hrun, hended, _, _, rfl, ?_, ⟨_, rfl⟩, hW, hsame.mono (by decide) (by decide)⟩
      · show Steps p.tables e below (T6.setTop (mkF m 101 #[.val (.int p1), .val (.int ((p1 &&& (2147483647 : Int32)) % (5 : Int32))), .val (.ref w_PENDING), .val (.int (1 : Int32)), .val (.int (f1 w_PENDING w_PENDING w_READY w_CANCELLED)), .val (.int (1 : Int32))] [(.int (1 : Int32)), (.int (f1 w_PENDING w_PENDING w_READY w_CANCELLED))])) _
        refine XS.icmpNo X6.here hx rfl (hb hby at_101) rfl (teq hc8).2 ?_
        show Steps p.tables e below (T6.setTop (mkF m 104 #[.val (.int p1), .val (.int ((p1 &&& (2147483647 : Int32)) % (5 : Int32))), .val (.ref w_PENDING), .val (.int (1 : Int32)), .val (.int (f1 w_PENDING w_PENDING w_READY w_CANCELLED)), .val (.int (1 : Int32))] [])) _
        refine XS.iload X6.here hx rfl (hb hby at_104) rfl ?_
        show Steps p.tables e below (T6.setTop (mkF m 106 #[.val (.int p1), .val (.int ((p1 &&& (2147483647 : Int32)) % (5 : Int32))), .val (.ref w_PENDING), .val (.int (1 : Int32)), .val (.int (f1 w_PENDING w_PENDING w_READY w_CANCELLED)), .val (.int (1 : Int32))] [(.int (f1 w_PENDING w_PENDING w_READY w_CANCELLED))])) _
        refine XS.iload X6.here hx rfl (hb hby at_106) rfl ?_
        show Steps p.tables e below (T6.setTop (mkF m 108 #[.val (.int p1), .val (.int ((p1 &&& (2147483647 : Int32)) % (5 : Int32))), .val (.ref w_PENDING), .val (.int (1 : Int32)), .val (.int (f1 w_PENDING w_PENDING w_READY w_CANCELLED)), .val (.int (1 : Int32))] [(.int (1 : Int32)), (.int (f1 w_PENDING w_PENDING w_READY w_CANCELLED))])) _
        refine XS.icmpNo X6.here hx rfl (hb hby at_108) rfl (teq hc8).2 ?_
        show Steps p.tables e below (T6.setTop (mkF m 111 #[.val (.int p1), .val (.int ((p1 &&& (2147483647 : Int32)) % (5 : Int32))), .val (.ref w_PENDING), .val (.int (1 : Int32)), .val (.int (f1 w_PENDING w_PENDING w_READY w_CANCELLED)), .val (.int (1 : Int32))] [])) _
        refine XS.iconst X6.here hx rfl (hb hby at_111) ?_
        show Steps p.tables e below (T6.setTop (mkF m 112 #[.val (.int p1), .val (.int ((p1 &&& (2147483647 : Int32)) % (5 : Int32))), .val (.ref w_PENDING), .val (.int (1 : Int32)), .val (.int (f1 w_PENDING w_PENDING w_READY w_CANCELLED)), .val (.int (1 : Int32))] [(.int (1 : Int32))])) _
        refine XS.goto X6.here hx rfl (pc0 := 112) (pc' := 116) rfl (hb hby at_112) (by decide) (by decide) ?_
        show Steps p.tables e below (T6.setTop (mkF m 116 #[.val (.int p1), .val (.int ((p1 &&& (2147483647 : Int32)) % (5 : Int32))), .val (.ref w_PENDING), .val (.int (1 : Int32)), .val (.int (f1 w_PENDING w_PENDING w_READY w_CANCELLED)), .val (.int (1 : Int32))] [(.int (1 : Int32))])) _
        exact retN X6 hx (t := .boolean) Bd.returns (by simp) (hb hby at_116) hr
      · show Q0 Z p1 w_PENDING w_COMPLETED w_READY w_CANCELLED w_IN_PROGRESS h0 n0 _ T6.heap _
        rw [e6]
        exact ⟨(by unfold f0; rw [if_pos hc2, if_pos hc8]), N5⟩
    ·  -- pc 101: not (f1 w_PENDING w_PENDING w_READY w_CANCELLED) = (1 : Int32)
      obtain ⟨fs, hr, hrun, hended, hW, hsame⟩ := X6.leave (v := some (.int (0 : Int32))) (fun h => by rw [Bd.returns] at h; cases h) Bd.notSynchronized
      refine ⟨_, _, pre7 _ ?_, hrun, hended, _, _, rfl, ?_, ⟨_, rfl⟩, hW, hsame.mono (by decide) (by decide)⟩
      · show Steps p.tables e below (T6.setTop (mkF m 101 #[.val (.int p1), .val (.int ((p1 &&& (2147483647 : Int32)) % (5 : Int32))), .val (.ref w_PENDING), .val (.int (1 : Int32)), .val (.int (f1 w_PENDING w_PENDING w_READY w_CANCELLED)), .val (.int (1 : Int32))] [(.int (1 : Int32)), (.int (f1 w_PENDING w_PENDING w_READY w_CANCELLED))])) _
        refine XS.icmpYes X6.here hx rfl (pc0 := 101) (pc' := 115) rfl (hb hby at_101) rfl (feq hc8).2 (by decide) (by decide) ?_
        show Steps p.tables e below (T6.setTop (mkF m 115 #[.val (.int p1), .val (.int ((p1 &&& (2147483647 : Int32)) % (5 : Int32))), .val (.ref w_PENDING), .val (.int (1 : Int32)), .val (.int (f1 w_PENDING w_PENDING w_READY w_CANCELLED)), .val (.int (1 : Int32))] [])) _
        refine XS.iconst X6.here hx rfl (hb hby at_115) ?_
        show Steps p.tables e below (T6.setTop (mkF m 116 #[.val (.int p1), .val (.int ((p1 &&& (2147483647 : Int32)) % (5 : Int32))), .val (.ref w_PENDING), .val (.int (1 : Int32)), .val (.int (f1 w_PENDING w_PENDING w_READY w_CANCELLED)), .val (.int (1 : Int32))] [(.int (0 : Int32))])) _
        exact retN X6 hx (t := .boolean) Bd.returns (by simp) (hb hby at_116) hr
      · show Q0 Z p1 w_PENDING w_COMPLETED w_READY w_CANCELLED w_IN_PROGRESS h0 n0 _ T6.heap _
        rw [e6]
        exact ⟨(by unfold f0; rw [if_pos hc2, if_neg hc8]), N5⟩
  ·  -- pc 8: not ((p1 &&& (2147483647 : Int32)) % (5 : Int32)) = (0 : Int32)
    have pre9 : ∀ t, Steps p.tables e below (s₁.setTop (mkF m 22 #[.val (.int p1), .val (.int ((p1 &&& (2147483647 : Int32)) % (5 : Int32))), .unset, .unset, .unset, .unset] [(.int (1 : Int32)), (.int ((p1 &&& (2147483647 : Int32)) % (5 : Int32)))])) t → Steps p.tables e below (s₁.setTop (entryFrame m #[(.int p1)] maxLocals)) t := fun t k => pre1 t (by
      show Steps p.tables e below (s₁.setTop (mkF m 8 #[.val (.int p1), .val (.int ((p1 &&& (2147483647 : Int32)) % (5 : Int32))), .unset, .unset, .unset, .unset] [(.int ((p1 &&& (2147483647 : Int32)) % (5 : Int32)))])) _
      refine XS.ifYes X0.here hx rfl (pc0 := 8) (pc' := 20) rfl (hb hby at_8) rfl ((if0 _ _).trans (feq hc2).2) (by decide) (by decide) ?_
      show Steps p.tables e below (s₁.setTop (mkF m 20 #[.val (.int p1), .val (.int ((p1 &&& (2147483647 : Int32)) % (5 : Int32))), .unset, .unset, .unset, .unset] [])) _
      refine XS.iloadN X0.here hx rfl (hb hby at_20) rfl ?_
      show Steps p.tables e below (s₁.setTop (mkF m 21 #[.val (.int p1), .val (.int ((p1 &&& (2147483647 : Int32)) % (5 : Int32))), .unset, .unset, .unset, .unset] [(.int ((p1 &&& (2147483647 : Int32)) % (5 : Int32)))])) _
      refine XS.iconst X0.here hx rfl (hb hby at_21) ?_
      exact k)
    by_cases hc10 : ((p1 &&& (2147483647 : Int32)) % (5 : Int32)) = (1 : Int32)
    ·  -- pc 22: ((p1 &&& (2147483647 : Int32)) % (5 : Int32)) = (1 : Int32)
      obtain ⟨T11, X11, e11, st11⟩ := getS2 X0 hx hZ hown (host := "") (Or.inl (hw _ (List.mem_of_getElem? (i := 30) rfl))) Via.refl e0 (S_READY.ext O0.2) (g := (mkF m 25 #[.val (.int p1), .val (.int ((p1 &&& (2147483647 : Int32)) % (5 : Int32))), .unset, .unset, .unset, .unset] [])) rfl (hb hby at_25)
      -- pc 69: RevenuePlanStatus.isSetByHand by rm1
      obtain ⟨cq12, kq12, q12a, q12b, q12c⟩ := isOf hZ e11 (E_w_READY.ext O0.2)
      obtain ⟨_, _, ⟨T12, L12, k12, n12⟩, -, X12, ⟨Lc12, hQ12, l12, y12, z12⟩, st12⟩ := X11.virtualBack hx (y := (⟨"com/example/indenture/indenture/status/RevenuePlanStatus", "isSetByHand", "()Z"⟩ : MethodName)) (z := (⟨"com/example/indenture/indenture/status/RevenuePlanStatus", "isSetByHand", "()Z"⟩ : MethodName)) hown (mvT hZ (hw _ (List.mem_of_getElem? (i := 4) rfl))) (mvT hZ (hw _ (List.mem_of_getElem? (i := 5) rfl))) (notFace_of_selects (args := #[]) (mvT hZ (hw _ (List.mem_of_getElem? (i := 7) rfl)))) (mvT hZ (hw _ (List.mem_of_getElem? (i := 7) rfl))) (mvT hZ (hw _ (List.mem_of_getElem? (i := 6) rfl))) (by decide) (backOf (W := 0) (rm1 l Z a0 hw [] w_READY w_PENDING w_READY w_CANCELLED h0 n0 Z0 (S_PENDING.ext O0.2) (S_READY.ext O0.2) (S_CANCELLED.ext O0.2)) hZ (hw _ (List.mem_of_getElem? (i := 8) rfl)) (hw _ (List.mem_of_getElem? (i := 2) rfl)) (by decide) (by decide)) q12a q12c (g := (mkF m 69 #[.val (.int p1), .val (.int ((p1 &&& (2147483647 : Int32)) % (5 : Int32))), .val (.ref w_READY), .val (.int (1 : Int32)), .unset, .unset] [(.ref w_READY)])) rfl (by rw [hml]; rfl) (Steps.refl _) (argsL := []) (rest := []) (lenOf pd_34 rfl) rfl (by show 2 * 0 + _ ≤ _; exact Nat.le_of_eq rfl) (hb hby at_69) (fun _ _ => ⟨rfl, e11, (by decide : 0 + 0 ≤ _), (by decide : 0 + 0 ≤ _)⟩)
      dsimp only [Pt.U, Pt.locs, Pt.cells, Pt.slots] at X12 l12 y12 z12 st12 hQ12
      subst l12 y12 z12
      obtain ⟨rfl, N12q, e12⟩ := hQ12
      have N13 := Fr.app N0 N12q
      obtain ⟨T14, X14, e14, st14⟩ := getS2 X12 hx hZ hown (host := "") (Or.inl (hw _ (List.mem_of_getElem? (i := 1) rfl))) Via.refl e12 (S_PENDING.ext O0.2) (g := (mkF m 75 #[.val (.int p1), .val (.int ((p1 &&& (2147483647 : Int32)) % (5 : Int32))), .val (.ref w_READY), .val (.int (1 : Int32)), .val (.int (f1 w_READY w_PENDING w_READY w_CANCELLED)), .unset] [(.ref w_READY)])) rfl (hb hby at_75)
      obtain ⟨T15, X15, e15, st15⟩ := getS2 X14 hx hZ hown (host := "") (Or.inl (hw _ (List.mem_of_getElem? (i := 1) rfl))) Via.refl e14 (S_PENDING.ext O0.2) (g := (mkF m 81 #[.val (.int p1), .val (.int ((p1 &&& (2147483647 : Int32)) % (5 : Int32))), .val (.ref w_READY), .val (.int (1 : Int32)), .val (.int (f1 w_READY w_PENDING w_READY w_CANCELLED)), .unset] [])) rfl (hb hby at_81)
      -- pc 85: RevenuePlanStatus.canMoveTo by rm2
      obtain ⟨cq16, kq16, q16a, q16b, q16c⟩ := isOf hZ e15 (E_w_PENDING.ext O0.2)
      obtain ⟨_, _, ⟨T16, L16, k16, n16⟩, -, X16, ⟨Lc16, hQ16, l16, y16, z16⟩, st16⟩ := X15.virtualBack hx (y := (⟨"com/example/indenture/indenture/status/RevenuePlanStatus", "canMoveTo", "(Lcom/example/indenture/indenture/status/RevenuePlanStatus;)Z"⟩ : MethodName)) (z := (⟨"com/example/indenture/indenture/status/RevenuePlanStatus", "canMoveTo", "(Lcom/example/indenture/indenture/status/RevenuePlanStatus;)Z"⟩ : MethodName)) hown (mvT hZ (hw _ (List.mem_of_getElem? (i := 16) rfl))) (mvT hZ (hw _ (List.mem_of_getElem? (i := 17) rfl))) (notFace_of_selects (args := #[]) (mvT hZ (hw _ (List.mem_of_getElem? (i := 19) rfl)))) (mvT hZ (hw _ (List.mem_of_getElem? (i := 19) rfl))) (mvT hZ (hw _ (List.mem_of_getElem? (i := 18) rfl))) (by decide) (backOf (W := 0) (rm2 l Z a0 hw [] w_PENDING w_READY w_READY w_CANCELLED h0 n0 Z0 (E_w_PENDING.ext O0.2) (F_ordinal_w_PENDING.ext O0.2) (S_READY.ext O0.2) (S_CANCELLED.ext O0.2)) hZ (hw _ (List.mem_of_getElem? (i := 20) rfl)) (hw _ (List.mem_of_getElem? (i := 2) rfl)) (by decide) (by decide)) q16a q16c (g := (mkF m 85 #[.val (.int p1), .val (.int ((p1 &&& (2147483647 : Int32)) % (5 : Int32))), .val (.ref w_READY), .val (.int (1 : Int32)), .val (.int (f1 w_READY w_PENDING w_READY w_CANCELLED)), .unset] [(.ref w_READY), (.ref w_PENDING)])) rfl (by rw [hml]; rfl) (Steps.refl _) (argsL := [(.ref w_READY)]) (rest := []) (lenOf pd_35 rfl) rfl (by show 2 * 0 + _ ≤ _; exact Nat.le_of_eq rfl) (hb hby at_85) (fun _ _ => ⟨rfl, e15, (by decide : 0 + 0 ≤ _), (by decide : 0 + 0 ≤ _)⟩)
      dsimp only [Pt.U, Pt.locs, Pt.cells, Pt.slots] at X16 l16 y16 z16 st16 hQ16
      subst l16 y16 z16
      obtain ⟨rfl, N16q, e16⟩ := hQ16
      have N17 := Fr.app N13 N16q
      have pre18 : ∀ t, Steps p.tables e below (T16.setTop (mkF m 88 #[.val (.int p1), .val (.int ((p1 &&& (2147483647 : Int32)) % (5 : Int32))), .val (.ref w_READY), .val (.int (1 : Int32)), .val (.int (f1 w_READY w_PENDING w_READY w_CANCELLED)), .unset] [(.int (f2 w_READY w_READY w_CANCELLED))])) t → Steps p.tables e below (s₁.setTop (entryFrame m #[(.int p1)] maxLocals)) t := fun t k => pre9 t (by
        show Steps p.tables e below (s₁.setTop (mkF m 22 #[.val (.int p1), .val (.int ((p1 &&& (2147483647 : Int32)) % (5 : Int32))), .unset, .unset, .unset, .unset] [(.int (1 : Int32)), (.int ((p1 &&& (2147483647 : Int32)) % (5 : Int32)))])) _
        refine XS.icmpNo X0.here hx rfl (hb hby at_22) rfl (teq hc10).2 ?_
        show Steps p.tables e below (s₁.setTop (mkF m 25 #[.val (.int p1), .val (.int ((p1 &&& (2147483647 : Int32)) % (5 : Int32))), .unset, .unset, .unset, .unset] [])) _
        refine st11 _ ?_
        show Steps p.tables e below (T11.setTop (mkF m 28 #[.val (.int p1), .val (.int ((p1 &&& (2147483647 : Int32)) % (5 : Int32))), .unset, .unset, .unset, .unset] [(.ref w_READY)])) _
        refine XS.astoreN X11.here hx rfl (hb hby at_28) rfl rfl (l' := #[.val (.int p1), .val (.int ((p1 &&& (2147483647 : Int32)) % (5 : Int32))), .val (.ref w_READY), .unset, .unset, .unset]) rfl ?_
        show Steps p.tables e below (T11.setTop (mkF m 29 #[.val (.int p1), .val (.int ((p1 &&& (2147483647 : Int32)) % (5 : Int32))), .val (.ref w_READY), .unset, .unset, .unset] [])) _
        refine XS.iconst X11.here hx rfl (hb hby at_29) ?_
        show Steps p.tables e below (T11.setTop (mkF m 30 #[.val (.int p1), .val (.int ((p1 &&& (2147483647 : Int32)) % (5 : Int32))), .val (.ref w_READY), .unset, .unset, .unset] [(.int (1 : Int32))])) _
        refine XS.istoreN X11.here hx rfl (hb hby at_30) rfl (l' := #[.val (.int p1), .val (.int ((p1 &&& (2147483647 : Int32)) % (5 : Int32))), .val (.ref w_READY), .val (.int (1 : Int32)), .unset, .unset]) rfl ?_
        show Steps p.tables e below (T11.setTop (mkF m 31 #[.val (.int p1), .val (.int ((p1 &&& (2147483647 : Int32)) % (5 : Int32))), .val (.ref w_READY), .val (.int (1 : Int32)), .unset, .unset] [])) _
        refine XS.goto X11.here hx rfl (pc0 := 31) (pc' := 68) rfl (hb hby at_31) (by decide) (by decide) ?_
        show Steps p.tables e below (T11.setTop (mkF m 68 #[.val (.int p1), .val (.int ((p1 &&& (2147483647 : Int32)) % (5 : Int32))), .val (.ref w_READY), .val (.int (1 : Int32)), .unset, .unset] [])) _
        refine XS.aloadN X11.here hx rfl (hb hby at_68) rfl rfl ?_
        show Steps p.tables e below (T11.setTop (mkF m 69 #[.val (.int p1), .val (.int ((p1 &&& (2147483647 : Int32)) % (5 : Int32))), .val (.ref w_READY), .val (.int (1 : Int32)), .unset, .unset] [(.ref w_READY)])) _
        refine st12.trans ?_
        show Steps p.tables e below (T12.setTop (mkF m 72 #[.val (.int p1), .val (.int ((p1 &&& (2147483647 : Int32)) % (5 : Int32))), .val (.ref w_READY), .val (.int (1 : Int32)), .unset, .unset] [(.int (f1 w_READY w_PENDING w_READY w_CANCELLED))])) _
        refine XS.istore X12.here hx rfl (hb hby at_72) rfl (l' := #[.val (.int p1), .val (.int ((p1 &&& (2147483647 : Int32)) % (5 : Int32))), .val (.ref w_READY), .val (.int (1 : Int32)), .val (.int (f1 w_READY w_PENDING w_READY w_CANCELLED)), .unset]) rfl ?_
        show Steps p.tables e below (T12.setTop (mkF m 74 #[.val (.int p1), .val (.int ((p1 &&& (2147483647 : Int32)) % (5 : Int32))), .val (.ref w_READY), .val (.int (1 : Int32)), .val (.int (f1 w_READY w_PENDING w_READY w_CANCELLED)), .unset] [])) _
        refine XS.aloadN X12.here hx rfl (hb hby at_74) rfl rfl ?_
        show Steps p.tables e below (T12.setTop (mkF m 75 #[.val (.int p1), .val (.int ((p1 &&& (2147483647 : Int32)) % (5 : Int32))), .val (.ref w_READY), .val (.int (1 : Int32)), .val (.int (f1 w_READY w_PENDING w_READY w_CANCELLED)), .unset] [(.ref w_READY)])) _
        refine st14 _ ?_
        show Steps p.tables e below (T14.setTop (mkF m 78 #[.val (.int p1), .val (.int ((p1 &&& (2147483647 : Int32)) % (5 : Int32))), .val (.ref w_READY), .val (.int (1 : Int32)), .val (.int (f1 w_READY w_PENDING w_READY w_CANCELLED)), .unset] [(.ref w_PENDING), (.ref w_READY)])) _
        refine Jvm.RoadKit.acmp (g := (mkF m 78 #[.val (.int p1), .val (.int ((p1 &&& (2147483647 : Int32)) % (5 : Int32))), .val (.ref w_READY), .val (.int (1 : Int32)), .val (.int (f1 w_READY w_PENDING w_READY w_CANCELLED)), .unset] [(.ref w_PENDING), (.ref w_READY)])) X14 hx rfl rfl rfl (pc0 := 78) (pc' := 81) (same := false) rfl (hb hby at_78) rfl (decide_eq_false fun q => ne_w_READY_w_PENDING (Value.ref.inj q)) (by decide) (by decide) ?_
        show Steps p.tables e below (T14.setTop (mkF m 81 #[.val (.int p1), .val (.int ((p1 &&& (2147483647 : Int32)) % (5 : Int32))), .val (.ref w_READY), .val (.int (1 : Int32)), .val (.int (f1 w_READY w_PENDING w_READY w_CANCELLED)), .unset] [])) _
        refine st15 _ ?_
        show Steps p.tables e below (T15.setTop (mkF m 84 #[.val (.int p1), .val (.int ((p1 &&& (2147483647 : Int32)) % (5 : Int32))), .val (.ref w_READY), .val (.int (1 : Int32)), .val (.int (f1 w_READY w_PENDING w_READY w_CANCELLED)), .unset] [(.ref w_PENDING)])) _
        refine XS.aloadN X15.here hx rfl (hb hby at_84) rfl rfl ?_
        show Steps p.tables e below (T15.setTop (mkF m 85 #[.val (.int p1), .val (.int ((p1 &&& (2147483647 : Int32)) % (5 : Int32))), .val (.ref w_READY), .val (.int (1 : Int32)), .val (.int (f1 w_READY w_PENDING w_READY w_CANCELLED)), .unset] [(.ref w_READY), (.ref w_PENDING)])) _
        refine st16.trans ?_
        exact k)
      by_cases hc19 : (f2 w_READY w_READY w_CANCELLED) = (0 : Int32)
      ·  -- pc 88: (f2 w_READY w_READY w_CANCELLED) = (0 : Int32)
        have pre20 : ∀ t, Steps p.tables e below (T16.setTop (mkF m 101 #[.val (.int p1), .val (.int ((p1 &&& (2147483647 : Int32)) % (5 : Int32))), .val (.ref w_READY), .val (.int (1 : Int32)), .val (.int (f1 w_READY w_PENDING w_READY w_CANCELLED)), .val (.int (0 : Int32))] [(.int (1 : Int32)), (.int (f1 w_READY w_PENDING w_READY w_CANCELLED))])) t → Steps p.tables e below (s₁.setTop (entryFrame m #[(.int p1)] maxLocals)) t := fun t k => pre18 t (by
          show Steps p.tables e below (T16.setTop (mkF m 88 #[.val (.int p1), .val (.int ((p1 &&& (2147483647 : Int32)) % (5 : Int32))), .val (.ref w_READY), .val (.int (1 : Int32)), .val (.int (f1 w_READY w_PENDING w_READY w_CANCELLED)), .unset] [(.int (f2 w_READY w_READY w_CANCELLED))])) _
          refine XS.ifYes X16.here hx rfl (pc0 := 88) (pc' := 95) rfl (hb hby at_88) rfl ((if0 _ _).trans (teq hc19).1) (by decide) (by decide) ?_
          show Steps p.tables e below (T16.setTop (mkF m 95 #[.val (.int p1), .val (.int ((p1 &&& (2147483647 : Int32)) % (5 : Int32))), .val (.ref w_READY), .val (.int (1 : Int32)), .val (.int (f1 w_READY w_PENDING w_READY w_CANCELLED)), .unset] [])) _
          refine XS.iconst X16.here hx rfl (hb hby at_95) ?_
          show Steps p.tables e below (T16.setTop (mkF m 96 #[.val (.int p1), .val (.int ((p1 &&& (2147483647 : Int32)) % (5 : Int32))), .val (.ref w_READY), .val (.int (1 : Int32)), .val (.int (f1 w_READY w_PENDING w_READY w_CANCELLED)), .unset] [(.int (0 : Int32))])) _
          refine XS.istore X16.here hx rfl (hb hby at_96) rfl (l' := #[.val (.int p1), .val (.int ((p1 &&& (2147483647 : Int32)) % (5 : Int32))), .val (.ref w_READY), .val (.int (1 : Int32)), .val (.int (f1 w_READY w_PENDING w_READY w_CANCELLED)), .val (.int (0 : Int32))]) rfl ?_
          show Steps p.tables e below (T16.setTop (mkF m 98 #[.val (.int p1), .val (.int ((p1 &&& (2147483647 : Int32)) % (5 : Int32))), .val (.ref w_READY), .val (.int (1 : Int32)), .val (.int (f1 w_READY w_PENDING w_READY w_CANCELLED)), .val (.int (0 : Int32))] [])) _
          refine XS.iload X16.here hx rfl (hb hby at_98) rfl ?_
          show Steps p.tables e below (T16.setTop (mkF m 100 #[.val (.int p1), .val (.int ((p1 &&& (2147483647 : Int32)) % (5 : Int32))), .val (.ref w_READY), .val (.int (1 : Int32)), .val (.int (f1 w_READY w_PENDING w_READY w_CANCELLED)), .val (.int (0 : Int32))] [(.int (f1 w_READY w_PENDING w_READY w_CANCELLED))])) _
          refine XS.iloadN X16.here hx rfl (hb hby at_100) rfl ?_
          exact k)
        by_cases hc21 : (f1 w_READY w_PENDING w_READY w_CANCELLED) = (1 : Int32)
        ·  -- pc 101: (f1 w_READY w_PENDING w_READY w_CANCELLED) = (1 : Int32)
          have pre22 : ∀ t, Steps p.tables e below (T16.setTop (mkF m 108 #[.val (.int p1), .val (.int ((p1 &&& (2147483647 : Int32)) % (5 : Int32))), .val (.ref w_READY), .val (.int (1 : Int32)), .val (.int (f1 w_READY w_PENDING w_READY w_CANCELLED)), .val (.int (0 : Int32))] [(.int (0 : Int32)), (.int (f1 w_READY w_PENDING w_READY w_CANCELLED))])) t → Steps p.tables e below (s₁.setTop (entryFrame m #[(.int p1)] maxLocals)) t := fun t k => pre20 t (by
            show Steps p.tables e below (T16.setTop (mkF m 101 #[.val (.int p1), .val (.int ((p1 &&& (2147483647 : Int32)) % (5 : Int32))), .val (.ref w_READY), .val (.int (1 : Int32)), .val (.int (f1 w_READY w_PENDING w_READY w_CANCELLED)), .val (.int (0 : Int32))] [(.int (1 : Int32)), (.int (f1 w_READY w_PENDING w_READY w_CANCELLED))])) _
            refine XS.icmpNo X16.here hx rfl (hb hby at_101) rfl (teq hc21).2 ?_
            show Steps p.tables e below (T16.setTop (mkF m 104 #[.val (.int p1), .val (.int ((p1 &&& (2147483647 : Int32)) % (5 : Int32))), .val (.ref w_READY), .val (.int (1 : Int32)), .val (.int (f1 w_READY w_PENDING w_READY w_CANCELLED)), .val (.int (0 : Int32))] [])) _
            refine XS.iload X16.here hx rfl (hb hby at_104) rfl ?_
            show Steps p.tables e below (T16.setTop (mkF m 106 #[.val (.int p1), .val (.int ((p1 &&& (2147483647 : Int32)) % (5 : Int32))), .val (.ref w_READY), .val (.int (1 : Int32)), .val (.int (f1 w_READY w_PENDING w_READY w_CANCELLED)), .val (.int (0 : Int32))] [(.int (f1 w_READY w_PENDING w_READY w_CANCELLED))])) _
            refine XS.iload X16.here hx rfl (hb hby at_106) rfl ?_
            exact k)
          by_cases hc23 : (f1 w_READY w_PENDING w_READY w_CANCELLED) = (0 : Int32)
          ·  -- pc 108: (f1 w_READY w_PENDING w_READY w_CANCELLED) = (0 : Int32)
            obtain ⟨fs, hr, hrun, hended, hW, hsame⟩ := X16.leave (v := some (.int (1 : Int32))) (fun h => by rw [Bd.returns] at h; cases h) Bd.notSynchronized
            refine ⟨_, _, pre22 _ ?_, hrun, hended, _, _, rfl, ?_, ⟨_, rfl⟩, hW, hsame.mono (by decide) (by decide)⟩
            · show Steps p.tables e below (T16.setTop (mkF m 108 #[.val (.int p1), .val (.int ((p1 &&& (2147483647 : Int32)) % (5 : Int32))), .val (.ref w_READY), .val (.int (1 : Int32)), .val (.int (f1 w_READY w_PENDING w_READY w_CANCELLED)), .val (.int (0 : Int32))] [(.int (0 : Int32)), (.int (f1 w_READY w_PENDING w_READY w_CANCELLED))])) _
              refine XS.icmpNo X16.here hx rfl (hb hby at_108) rfl (teq hc23).2 ?_
              show Steps p.tables e below (T16.setTop (mkF m 111 #[.val (.int p1), .val (.int ((p1 &&& (2147483647 : Int32)) % (5 : Int32))), .val (.ref w_READY), .val (.int (1 : Int32)), .val (.int (f1 w_READY w_PENDING w_READY w_CANCELLED)), .val (.int (0 : Int32))] [])) _
              refine XS.iconst X16.here hx rfl (hb hby at_111) ?_
              show Steps p.tables e below (T16.setTop (mkF m 112 #[.val (.int p1), .val (.int ((p1 &&& (2147483647 : Int32)) % (5 : Int32))), .val (.ref w_READY), .val (.int (1 : Int32)), .val (.int (f1 w_READY w_PENDING w_READY w_CANCELLED)), .val (.int (0 : Int32))] [(.int (1 : Int32))])) _
              refine XS.goto X16.here hx rfl (pc0 := 112) (pc' := 116) rfl (hb hby at_112) (by decide) (by decide) ?_
              show Steps p.tables e below (T16.setTop (mkF m 116 #[.val (.int p1), .val (.int ((p1 &&& (2147483647 : Int32)) % (5 : Int32))), .val (.ref w_READY), .val (.int (1 : Int32)), .val (.int (f1 w_READY w_PENDING w_READY w_CANCELLED)), .val (.int (0 : Int32))] [(.int (1 : Int32))])) _
              exact retN X16 hx (t := .boolean) Bd.returns (by simp) (hb hby at_116) hr
            · show Q0 Z p1 w_PENDING w_COMPLETED w_READY w_CANCELLED w_IN_PROGRESS h0 n0 _ T16.heap _
              rw [e16]
              exact ⟨(by unfold f0; rw [if_neg hc2, if_pos hc10, if_pos hc19, if_pos hc21, if_pos hc23]), N17⟩
          ·  -- pc 108: not (f1 w_READY w_PENDING w_READY w_CANCELLED) = (0 : Int32)
            obtain ⟨fs, hr, hrun, hended, hW, hsame⟩ := X16.leave (v := some (.int (0 : Int32))) (fun h => by rw [Bd.returns] at h; cases h) Bd.notSynchronized
            refine ⟨_, _, pre22 _ ?_, hrun, hended, _, _, rfl, ?_, ⟨_, rfl⟩, hW, hsame.mono (by decide) (by decide)⟩
            · show Steps p.tables e below (T16.setTop (mkF m 108 #[.val (.int p1), .val (.int ((p1 &&& (2147483647 : Int32)) % (5 : Int32))), .val (.ref w_READY), .val (.int (1 : Int32)), .val (.int (f1 w_READY w_PENDING w_READY w_CANCELLED)), .val (.int (0 : Int32))] [(.int (0 : Int32)), (.int (f1 w_READY w_PENDING w_READY w_CANCELLED))])) _
              refine XS.icmpYes X16.here hx rfl (pc0 := 108) (pc' := 115) rfl (hb hby at_108) rfl (feq hc23).2 (by decide) (by decide) ?_
              show Steps p.tables e below (T16.setTop (mkF m 115 #[.val (.int p1), .val (.int ((p1 &&& (2147483647 : Int32)) % (5 : Int32))), .val (.ref w_READY), .val (.int (1 : Int32)), .val (.int (f1 w_READY w_PENDING w_READY w_CANCELLED)), .val (.int (0 : Int32))] [])) _
              refine XS.iconst X16.here hx rfl (hb hby at_115) ?_
              show Steps p.tables e below (T16.setTop (mkF m 116 #[.val (.int p1), .val (.int ((p1 &&& (2147483647 : Int32)) % (5 : Int32))), .val (.ref w_READY), .val (.int (1 : Int32)), .val (.int (f1 w_READY w_PENDING w_READY w_CANCELLED)), .val (.int (0 : Int32))] [(.int (0 : Int32))])) _
              exact retN X16 hx (t := .boolean) Bd.returns (by simp) (hb hby at_116) hr
            · show Q0 Z p1 w_PENDING w_COMPLETED w_READY w_CANCELLED w_IN_PROGRESS h0 n0 _ T16.heap _
              rw [e16]
              exact ⟨(by unfold f0; rw [if_neg hc2, if_pos hc10, if_pos hc19, if_pos hc21, if_neg hc23]), N17⟩
        ·  -- pc 101: not (f1 w_READY w_PENDING w_READY w_CANCELLED) = (1 : Int32)
          obtain ⟨fs, hr, hrun, hended, hW, hsame⟩ := X16.leave (v := some (.int (0 : Int32))) (fun h => by rw [Bd.returns] at h; cases h) Bd.notSynchronized
          refine ⟨_, _, pre20 _ ?_, hrun, hended, _, _, rfl, ?_, ⟨_, rfl⟩, hW, hsame.mono (by decide) (by decide)⟩
          · show Steps p.tables e below (T16.setTop (mkF m 101 #[.val (.int p1), .val (.int ((p1 &&& (2147483647 : Int32)) % (5 : Int32))), .val (.ref w_READY), .val (.int (1 : Int32)), .val (.int (f1 w_READY w_PENDING w_READY w_CANCELLED)), .val (.int (0 : Int32))] [(.int (1 : Int32)), (.int (f1 w_READY w_PENDING w_READY w_CANCELLED))])) _
            refine XS.icmpYes X16.here hx rfl (pc0 := 101) (pc' := 115) rfl (hb hby at_101) rfl (feq hc21).2 (by decide) (by decide) ?_
            show Steps p.tables e below (T16.setTop (mkF m 115 #[.val (.int p1), .val (.int ((p1 &&& (2147483647 : Int32)) % (5 : Int32))), .val (.ref w_READY), .val (.int (1 : Int32)), .val (.int (f1 w_READY w_PENDING w_READY w_CANCELLED)), .val (.int (0 : Int32))] [])) _
            refine XS.iconst X16.here hx rfl (hb hby at_115) ?_
            show Steps p.tables e below (T16.setTop (mkF m 116 #[.val (.int p1), .val (.int ((p1 &&& (2147483647 : Int32)) % (5 : Int32))), .val (.ref w_READY), .val (.int (1 : Int32)), .val (.int (f1 w_READY w_PENDING w_READY w_CANCELLED)), .val (.int (0 : Int32))] [(.int (0 : Int32))])) _
            exact retN X16 hx (t := .boolean) Bd.returns (by simp) (hb hby at_116) hr
          · show Q0 Z p1 w_PENDING w_COMPLETED w_READY w_CANCELLED w_IN_PROGRESS h0 n0 _ T16.heap _
            rw [e16]
            exact ⟨(by unfold f0; rw [if_neg hc2, if_pos hc10, if_pos hc19, if_neg hc21]), N17⟩
      ·  -- pc 88: not (f2 w_READY w_READY w_CANCELLED) = (0 : Int32)
        have pre24 : ∀ t, Steps p.tables e below (T16.setTop (mkF m 101 #[.val (.int p1), .val (.int ((p1 &&& (2147483647 : Int32)) % (5 : Int32))), .val (.ref w_READY), .val (.int (1 : Int32)), .val (.int (f1 w_READY w_PENDING w_READY w_CANCELLED)), .val (.int (1 : Int32))] [(.int (1 : Int32)), (.int (f1 w_READY w_PENDING w_READY w_CANCELLED))])) t → Steps p.tables e below (s₁.setTop (entryFrame m #[(.int p1)] maxLocals)) t := fun t k => pre18 t (by
          show Steps p.tables e below (T16.setTop (mkF m 88 #[.val (.int p1), .val (.int ((p1 &&& (2147483647 : Int32)) % (5 : Int32))), .val (.ref w_READY), .val (.int (1 : Int32)), .val (.int (f1 w_READY w_PENDING w_READY w_CANCELLED)), .unset] [(.int (f2 w_READY w_READY w_CANCELLED))])) _
          refine XS.ifNo X16.here hx rfl (hb hby at_88) rfl ((if0 _ _).trans (feq hc19).1) ?_
          show Steps p.tables e below (T16.setTop (mkF m 91 #[.val (.int p1), .val (.int ((p1 &&& (2147483647 : Int32)) % (5 : Int32))), .val (.ref w_READY), .val (.int (1 : Int32)), .val (.int (f1 w_READY w_PENDING w_READY w_CANCELLED)), .unset] [])) _
          refine XS.iconst X16.here hx rfl (hb hby at_91) ?_
          show Steps p.tables e below (T16.setTop (mkF m 92 #[.val (.int p1), .val (.int ((p1 &&& (2147483647 : Int32)) % (5 : Int32))), .val (.ref w_READY), .val (.int (1 : Int32)), .val (.int (f1 w_READY w_PENDING w_READY w_CANCELLED)), .unset] [(.int (1 : Int32))])) _
          refine XS.goto X16.here hx rfl (pc0 := 92) (pc' := 96) rfl (hb hby at_92) (by decide) (by decide) ?_
          show Steps p.tables e below (T16.setTop (mkF m 96 #[.val (.int p1), .val (.int ((p1 &&& (2147483647 : Int32)) % (5 : Int32))), .val (.ref w_READY), .val (.int (1 : Int32)), .val (.int (f1 w_READY w_PENDING w_READY w_CANCELLED)), .unset] [(.int (1 : Int32))])) _
          refine XS.istore X16.here hx rfl (hb hby at_96) rfl (l' := #[.val (.int p1), .val (.int ((p1 &&& (2147483647 : Int32)) % (5 : Int32))), .val (.ref w_READY), .val (.int (1 : Int32)), .val (.int (f1 w_READY w_PENDING w_READY w_CANCELLED)), .val (.int (1 : Int32))]) rfl ?_
          show Steps p.tables e below (T16.setTop (mkF m 98 #[.val (.int p1), .val (.int ((p1 &&& (2147483647 : Int32)) % (5 : Int32))), .val (.ref w_READY), .val (.int (1 : Int32)), .val (.int (f1 w_READY w_PENDING w_READY w_CANCELLED)), .val (.int (1 : Int32))] [])) _
          refine XS.iload X16.here hx rfl (hb hby at_98) rfl ?_
          show Steps p.tables e below (T16.setTop (mkF m 100 #[.val (.int p1), .val (.int ((p1 &&& (2147483647 : Int32)) % (5 : Int32))), .val (.ref w_READY), .val (.int (1 : Int32)), .val (.int (f1 w_READY w_PENDING w_READY w_CANCELLED)), .val (.int (1 : Int32))] [(.int (f1 w_READY w_PENDING w_READY w_CANCELLED))])) _
          refine XS.iloadN X16.here hx rfl (hb hby at_100) rfl ?_
          exact k)
        by_cases hc25 : (f1 w_READY w_PENDING w_READY w_CANCELLED) = (1 : Int32)
        ·  -- pc 101: (f1 w_READY w_PENDING w_READY w_CANCELLED) = (1 : Int32)
          obtain ⟨fs, hr, hrun, hended, hW, hsame⟩ := X16.leave (v := some (.int (1 : Int32))) (fun h => by rw [Bd.returns] at h; cases h) Bd.notSynchronized
          refine ⟨_, _, pre24 _ ?_, hrun, hended, _, _, rfl, ?_, ⟨_, rfl⟩, hW, hsame.mono (by decide) (by decide)⟩
          · show Steps p.tables e below (T16.setTop (mkF m 101 #[.val (.int p1), .val (.int ((p1 &&& (2147483647 : Int32)) % (5 : Int32))), .val (.ref w_READY), .val (.int (1 : Int32)), .val (.int (f1 w_READY w_PENDING w_READY w_CANCELLED)), .val (.int (1 : Int32))] [(.int (1 : Int32)), (.int (f1 w_READY w_PENDING w_READY w_CANCELLED))])) _
            refine XS.icmpNo X16.here hx rfl (hb hby at_101) rfl (teq hc25).2 ?_
            show Steps p.tables e below (T16.setTop (mkF m 104 #[.val (.int p1), .val (.int ((p1 &&& (2147483647 : Int32)) % (5 : Int32))), .val (.ref w_READY), .val (.int (1 : Int32)), .val (.int (f1 w_READY w_PENDING w_READY w_CANCELLED)), .val (.int (1 : Int32))] [])) _
            refine XS.iload X16.here hx rfl (hb hby at_104) rfl ?_
            show Steps p.tables e below (T16.setTop (mkF m 106 #[.val (.int p1), .val (.int ((p1 &&& (2147483647 : Int32)) % (5 : Int32))), .val (.ref w_READY), .val (.int (1 : Int32)), .val (.int (f1 w_READY w_PENDING w_READY w_CANCELLED)), .val (.int (1 : Int32))] [(.int (f1 w_READY w_PENDING w_READY w_CANCELLED))])) _
            refine XS.iload X16.here hx rfl (hb hby at_106) rfl ?_
            show Steps p.tables e below (T16.setTop (mkF m 108 #[.val (.int p1), .val (.int ((p1 &&& (2147483647 : Int32)) % (5 : Int32))), .val (.ref w_READY), .val (.int (1 : Int32)), .val (.int (f1 w_READY w_PENDING w_READY w_CANCELLED)), .val (.int (1 : Int32))] [(.int (1 : Int32)), (.int (f1 w_READY w_PENDING w_READY w_CANCELLED))])) _
            refine XS.icmpNo X16.here hx rfl (hb hby at_108) rfl (teq hc25).2 ?_
            show Steps p.tables e below (T16.setTop (mkF m 111 #[.val (.int p1), .val (.int ((p1 &&& (2147483647 : Int32)) % (5 : Int32))), .val (.ref w_READY), .val (.int (1 : Int32)), .val (.int (f1 w_READY w_PENDING w_READY w_CANCELLED)), .val (.int (1 : Int32))] [])) _
            refine XS.iconst X16.here hx rfl (hb hby at_111) ?_
            show Steps p.tables e below (T16.setTop (mkF m 112 #[.val (.int p1), .val (.int ((p1 &&& (2147483647 : Int32)) % (5 : Int32))), .val (.ref w_READY), .val (.int (1 : Int32)), .val (.int (f1 w_READY w_PENDING w_READY w_CANCELLED)), .val (.int (1 : Int32))] [(.int (1 : Int32))])) _
            refine XS.goto X16.here hx rfl (pc0 := 112) (pc' := 116) rfl (hb hby at_112) (by decide) (by decide) ?_
            show Steps p.tables e below (T16.setTop (mkF m 116 #[.val (.int p1), .val (.int ((p1 &&& (2147483647 : Int32)) % (5 : Int32))), .val (.ref w_READY), .val (.int (1 : Int32)), .val (.int (f1 w_READY w_PENDING w_READY w_CANCELLED)), .val (.int (1 : Int32))] [(.int (1 : Int32))])) _
            exact retN X16 hx (t := .boolean) Bd.returns (by simp) (hb hby at_116) hr
          · show Q0 Z p1 w_PENDING w_COMPLETED w_READY w_CANCELLED w_IN_PROGRESS h0 n0 _ T16.heap _
            rw [e16]
            exact ⟨(by unfold f0; rw [if_neg hc2, if_pos hc10, if_neg hc19, if_pos hc25]), N17⟩
        ·  -- pc 101: not (f1 w_READY w_PENDING w_READY w_CANCELLED) = (1 : Int32)
          obtain ⟨fs, hr, hrun, hended, hW, hsame⟩ := X16.leave (v := some (.int (0 : Int32))) (fun h => by rw [Bd.returns] at h; cases h) Bd.notSynchronized
          refine ⟨_, _, pre24 _ ?_, hrun, hended, _, _, rfl, ?_, ⟨_, rfl⟩, hW, hsame.mono (by decide) (by decide)⟩
          · show Steps p.tables e below (T16.setTop (mkF m 101 #[.val (.int p1), .val (.int ((p1 &&& (2147483647 : Int32)) % (5 : Int32))), .val (.ref w_READY), .val (.int (1 : Int32)), .val (.int (f1 w_READY w_PENDING w_READY w_CANCELLED)), .val (.int (1 : Int32))] [(.int (1 : Int32)), (.int (f1 w_READY w_PENDING w_READY w_CANCELLED))])) _
            refine XS.icmpYes X16.here hx rfl (pc0 := 101) (pc' := 115) rfl (hb hby at_101) rfl (feq hc25).2 (by decide) (by decide) ?_
            show Steps p.tables e below (T16.setTop (mkF m 115 #[.val (.int p1), .val (.int ((p1 &&& (2147483647 : Int32)) % (5 : Int32))), .val (.ref w_READY), .val (.int (1 : Int32)), .val (.int (f1 w_READY w_PENDING w_READY w_CANCELLED)), .val (.int (1 : Int32))] [])) _
            refine XS.iconst X16.here hx rfl (hb hby at_115) ?_
            show Steps p.tables e below (T16.setTop (mkF m 116 #[.val (.int p1), .val (.int ((p1 &&& (2147483647 : Int32)) % (5 : Int32))), .val (.ref w_READY), .val (.int (1 : Int32)), .val (.int (f1 w_READY w_PENDING w_READY w_CANCELLED)), .val (.int (1 : Int32))] [(.int (0 : Int32))])) _
            exact retN X16 hx (t := .boolean) Bd.returns (by simp) (hb hby at_116) hr
          · show Q0 Z p1 w_PENDING w_COMPLETED w_READY w_CANCELLED w_IN_PROGRESS h0 n0 _ T16.heap _
            rw [e16]
            exact ⟨(by unfold f0; rw [if_neg hc2, if_pos hc10, if_neg hc19, if_neg hc25]), N17⟩
    ·  -- pc 22: not ((p1 &&& (2147483647 : Int32)) % (5 : Int32)) = (1 : Int32)
      have pre26 : ∀ t, Steps p.tables e below (s₁.setTop (mkF m 36 #[.val (.int p1), .val (.int ((p1 &&& (2147483647 : Int32)) % (5 : Int32))), .unset, .unset, .unset, .unset] [(.int (2 : Int32)), (.int ((p1 &&& (2147483647 : Int32)) % (5 : Int32)))])) t → Steps p.tables e below (s₁.setTop (entryFrame m #[(.int p1)] maxLocals)) t := fun t k => pre9 t (by
        show Steps p.tables e below (s₁.setTop (mkF m 22 #[.val (.int p1), .val (.int ((p1 &&& (2147483647 : Int32)) % (5 : Int32))), .unset, .unset, .unset, .unset] [(.int (1 : Int32)), (.int ((p1 &&& (2147483647 : Int32)) % (5 : Int32)))])) _
        refine XS.icmpYes X0.here hx rfl (pc0 := 22) (pc' := 34) rfl (hb hby at_22) rfl (feq hc10).2 (by decide) (by decide) ?_
        show Steps p.tables e below (s₁.setTop (mkF m 34 #[.val (.int p1), .val (.int ((p1 &&& (2147483647 : Int32)) % (5 : Int32))), .unset, .unset, .unset, .unset] [])) _
        refine XS.iloadN X0.here hx rfl (hb hby at_34) rfl ?_
        show Steps p.tables e below (s₁.setTop (mkF m 35 #[.val (.int p1), .val (.int ((p1 &&& (2147483647 : Int32)) % (5 : Int32))), .unset, .unset, .unset, .unset] [(.int ((p1 &&& (2147483647 : Int32)) % (5 : Int32)))])) _
        refine XS.iconst X0.here hx rfl (hb hby at_35) ?_
        exact k)
      by_cases hc27 : ((p1 &&& (2147483647 : Int32)) % (5 : Int32)) = (2 : Int32)
      ·  -- pc 36: ((p1 &&& (2147483647 : Int32)) % (5 : Int32)) = (2 : Int32)
        obtain ⟨T28, X28, e28, st28⟩ := getS2 X0 hx hZ hown (host := "") (Or.inl (hw _ (List.mem_of_getElem? (i := 32) rfl))) Via.refl e0 (S_IN_PROGRESS.ext O0.2) (g := (mkF m 39 #[.val (.int p1), .val (.int ((p1 &&& (2147483647 : Int32)) % (5 : Int32))), .unset, .unset, .unset, .unset] [])) rfl (hb hby at_39)
        -- pc 69: RevenuePlanStatus.isSetByHand by rm1
        obtain ⟨cq29, kq29, q29a, q29b, q29c⟩ := isOf hZ e28 (E_w_IN_PROGRESS.ext O0.2)
        obtain ⟨_, _, ⟨T29, L29, k29, n29⟩, -, X29, ⟨Lc29, hQ29, l29, y29, z29⟩, st29⟩ := X28.virtualBack hx (y := (⟨"com/example/indenture/indenture/status/RevenuePlanStatus", "isSetByHand", "()Z"⟩ : MethodName)) (z := (⟨"com/example/indenture/indenture/status/RevenuePlanStatus", "isSetByHand", "()Z"⟩ : MethodName)) hown (mvT hZ (hw _ (List.mem_of_getElem? (i := 4) rfl))) (mvT hZ (hw _ (List.mem_of_getElem? (i := 5) rfl))) (notFace_of_selects (args := #[]) (mvT hZ (hw _ (List.mem_of_getElem? (i := 7) rfl)))) (mvT hZ (hw _ (List.mem_of_getElem? (i := 7) rfl))) (mvT hZ (hw _ (List.mem_of_getElem? (i := 6) rfl))) (by decide) (backOf (W := 0) (rm1 l Z a0 hw [] w_IN_PROGRESS w_PENDING w_READY w_CANCELLED h0 n0 Z0 (S_PENDING.ext O0.2) (S_READY.ext O0.2) (S_CANCELLED.ext O0.2)) hZ (hw _ (List.mem_of_getElem? (i := 8) rfl)) (hw _ (List.mem_of_getElem? (i := 2) rfl)) (by decide) (by decide)) q29a q29c (g := (mkF m 69 #[.val (.int p1), .val (.int ((p1 &&& (2147483647 : Int32)) % (5 : Int32))), .val (.ref w_IN_PROGRESS), .val (.int (0 : Int32)), .unset, .unset] [(.ref w_IN_PROGRESS)])) rfl (by rw [hml]; rfl) (Steps.refl _) (argsL := []) (rest := []) (lenOf pd_34 rfl) rfl (by show 2 * 0 + _ ≤ _; exact Nat.le_of_eq rfl) (hb hby at_69) (fun _ _ => ⟨rfl, e28, (by decide : 0 + 0 ≤ _), (by decide : 0 + 0 ≤ _)⟩)
        dsimp only [Pt.U, Pt.locs, Pt.cells, Pt.slots] at X29 l29 y29 z29 st29 hQ29
        subst l29 y29 z29
        obtain ⟨rfl, N29q, e29⟩ := hQ29
        have N30 := Fr.app N0 N29q
        obtain ⟨T31, X31, e31, st31⟩ := getS2 X29 hx hZ hown (host := "") (Or.inl (hw _ (List.mem_of_getElem? (i := 1) rfl))) Via.refl e29 (S_PENDING.ext O0.2) (g := (mkF m 75 #[.val (.int p1), .val (.int ((p1 &&& (2147483647 : Int32)) % (5 : Int32))), .val (.ref w_IN_PROGRESS), .val (.int (0 : Int32)), .val (.int (f1 w_IN_PROGRESS w_PENDING w_READY w_CANCELLED)), .unset] [(.ref w_IN_PROGRESS)])) rfl (hb hby at_75)
        obtain ⟨T32, X32, e32, st32⟩ := getS2 X31 hx hZ hown (host := "") (Or.inl (hw _ (List.mem_of_getElem? (i := 1) rfl))) Via.refl e31 (S_PENDING.ext O0.2) (g := (mkF m 81 #[.val (.int p1), .val (.int ((p1 &&& (2147483647 : Int32)) % (5 : Int32))), .val (.ref w_IN_PROGRESS), .val (.int (0 : Int32)), .val (.int (f1 w_IN_PROGRESS w_PENDING w_READY w_CANCELLED)), .unset] [])) rfl (hb hby at_81)
        -- pc 85: RevenuePlanStatus.canMoveTo by rm2
        obtain ⟨cq33, kq33, q33a, q33b, q33c⟩ := isOf hZ e32 (E_w_PENDING.ext O0.2)
        obtain ⟨_, _, ⟨T33, L33, k33, n33⟩, -, X33, ⟨Lc33, hQ33, l33, y33, z33⟩, st33⟩ := X32.virtualBack hx (y := (⟨"com/example/indenture/indenture/status/RevenuePlanStatus", "canMoveTo", "(Lcom/example/indenture/indenture/status/RevenuePlanStatus;)Z"⟩ : MethodName)) (z := (⟨"com/example/indenture/indenture/status/RevenuePlanStatus", "canMoveTo", "(Lcom/example/indenture/indenture/status/RevenuePlanStatus;)Z"⟩ : MethodName)) hown (mvT hZ (hw _ (List.mem_of_getElem? (i := 16) rfl))) (mvT hZ (hw _ (List.mem_of_getElem? (i := 17) rfl))) (notFace_of_selects (args := #[]) (mvT hZ (hw _ (List.mem_of_getElem? (i := 19) rfl)))) (mvT hZ (hw _ (List.mem_of_getElem? (i := 19) rfl))) (mvT hZ (hw _ (List.mem_of_getElem? (i := 18) rfl))) (by decide) (backOf (W := 0) (rm2 l Z a0 hw [] w_PENDING w_IN_PROGRESS w_READY w_CANCELLED h0 n0 Z0 (E_w_PENDING.ext O0.2) (F_ordinal_w_PENDING.ext O0.2) (S_READY.ext O0.2) (S_CANCELLED.ext O0.2)) hZ (hw _ (List.mem_of_getElem? (i := 20) rfl)) (hw _ (List.mem_of_getElem? (i := 2) rfl)) (by decide) (by decide)) q33a q33c (g := (mkF m 85 #[.val (.int p1), .val (.int ((p1 &&& (2147483647 : Int32)) % (5 : Int32))), .val (.ref w_IN_PROGRESS), .val (.int (0 : Int32)), .val (.int (f1 w_IN_PROGRESS w_PENDING w_READY w_CANCELLED)), .unset] [(.ref w_IN_PROGRESS), (.ref w_PENDING)])) rfl (by rw [hml]; rfl) (Steps.refl _) (argsL := [(.ref w_IN_PROGRESS)]) (rest := []) (lenOf pd_35 rfl) rfl (by show 2 * 0 + _ ≤ _; exact Nat.le_of_eq rfl) (hb hby at_85) (fun _ _ => ⟨rfl, e32, (by decide : 0 + 0 ≤ _), (by decide : 0 + 0 ≤ _)⟩)
        dsimp only [Pt.U, Pt.locs, Pt.cells, Pt.slots] at X33 l33 y33 z33 st33 hQ33
        subst l33 y33 z33
        obtain ⟨rfl, N33q, e33⟩ := hQ33
        have N34 := Fr.app N30 N33q
        have pre35 : ∀ t, Steps p.tables e below (T33.setTop (mkF m 88 #[.val (.int p1), .val (.int ((p1 &&& (2147483647 : Int32)) % (5 : Int32))), .val (.ref w_IN_PROGRESS), .val (.int (0 : Int32)), .val (.int (f1 w_IN_PROGRESS w_PENDING w_READY w_CANCELLED)), .unset] [(.int (f2 w_IN_PROGRESS w_READY w_CANCELLED))])) t → Steps p.tables e below (s₁.setTop (entryFrame m #[(.int p1)] maxLocals)) t := fun t k => pre26 t (by
          show Steps p.tables e below (s₁.setTop (mkF m 36 #[.val (.int p1), .val (.int ((p1 &&& (2147483647 : Int32)) % (5 : Int32))), .unset, .unset, .unset, .unset] [(.int (2 : Int32)), (.int ((p1 &&& (2147483647 : Int32)) % (5 : Int32)))])) _
          refine XS.icmpNo X0.here hx rfl (hb hby at_36) rfl (teq hc27).2 ?_
          show Steps p.tables e below (s₁.setTop (mkF m 39 #[.val (.int p1), .val (.int ((p1 &&& (2147483647 : Int32)) % (5 : Int32))), .unset, .unset, .unset, .unset] [])) _
          refine st28 _ ?_
          show Steps p.tables e below (T28.setTop (mkF m 42 #[.val (.int p1), .val (.int ((p1 &&& (2147483647 : Int32)) % (5 : Int32))), .unset, .unset, .unset, .unset] [(.ref w_IN_PROGRESS)])) _
          refine XS.astoreN X28.here hx rfl (hb hby at_42) rfl rfl (l' := #[.val (.int p1), .val (.int ((p1 &&& (2147483647 : Int32)) % (5 : Int32))), .val (.ref w_IN_PROGRESS), .unset, .unset, .unset]) rfl ?_
          show Steps p.tables e below (T28.setTop (mkF m 43 #[.val (.int p1), .val (.int ((p1 &&& (2147483647 : Int32)) % (5 : Int32))), .val (.ref w_IN_PROGRESS), .unset, .unset, .unset] [])) _
          refine XS.iconst X28.here hx rfl (hb hby at_43) ?_
          show Steps p.tables e below (T28.setTop (mkF m 44 #[.val (.int p1), .val (.int ((p1 &&& (2147483647 : Int32)) % (5 : Int32))), .val (.ref w_IN_PROGRESS), .unset, .unset, .unset] [(.int (0 : Int32))])) _
          refine XS.istoreN X28.here hx rfl (hb hby at_44) rfl (l' := #[.val (.int p1), .val (.int ((p1 &&& (2147483647 : Int32)) % (5 : Int32))), .val (.ref w_IN_PROGRESS), .val (.int (0 : Int32)), .unset, .unset]) rfl ?_
          show Steps p.tables e below (T28.setTop (mkF m 45 #[.val (.int p1), .val (.int ((p1 &&& (2147483647 : Int32)) % (5 : Int32))), .val (.ref w_IN_PROGRESS), .val (.int (0 : Int32)), .unset, .unset] [])) _
          refine XS.goto X28.here hx rfl (pc0 := 45) (pc' := 68) rfl (hb hby at_45) (by decide) (by decide) ?_
          show Steps p.tables e below (T28.setTop (mkF m 68 #[.val (.int p1), .val (.int ((p1 &&& (2147483647 : Int32)) % (5 : Int32))), .val (.ref w_IN_PROGRESS), .val (.int (0 : Int32)), .unset, .unset] [])) _
          refine XS.aloadN X28.here hx rfl (hb hby at_68) rfl rfl ?_
          show Steps p.tables e below (T28.setTop (mkF m 69 #[.val (.int p1), .val (.int ((p1 &&& (2147483647 : Int32)) % (5 : Int32))), .val (.ref w_IN_PROGRESS), .val (.int (0 : Int32)), .unset, .unset] [(.ref w_IN_PROGRESS)])) _
          refine st29.trans ?_
          show Steps p.tables e below (T29.setTop (mkF m 72 #[.val (.int p1), .val (.int ((p1 &&& (2147483647 : Int32)) % (5 : Int32))), .val (.ref w_IN_PROGRESS), .val (.int (0 : Int32)), .unset, .unset] [(.int (f1 w_IN_PROGRESS w_PENDING w_READY w_CANCELLED))])) _
          refine XS.istore X29.here hx rfl (hb hby at_72) rfl (l' := #[.val (.int p1), .val (.int ((p1 &&& (2147483647 : Int32)) % (5 : Int32))), .val (.ref w_IN_PROGRESS), .val (.int (0 : Int32)), .val (.int (f1 w_IN_PROGRESS w_PENDING w_READY w_CANCELLED)), .unset]) rfl ?_
          show Steps p.tables e below (T29.setTop (mkF m 74 #[.val (.int p1), .val (.int ((p1 &&& (2147483647 : Int32)) % (5 : Int32))), .val (.ref w_IN_PROGRESS), .val (.int (0 : Int32)), .val (.int (f1 w_IN_PROGRESS w_PENDING w_READY w_CANCELLED)), .unset] [])) _
          refine XS.aloadN X29.here hx rfl (hb hby at_74) rfl rfl ?_
          show Steps p.tables e below (T29.setTop (mkF m 75 #[.val (.int p1), .val (.int ((p1 &&& (2147483647 : Int32)) % (5 : Int32))), .val (.ref w_IN_PROGRESS), .val (.int (0 : Int32)), .val (.int (f1 w_IN_PROGRESS w_PENDING w_READY w_CANCELLED)), .unset] [(.ref w_IN_PROGRESS)])) _
          refine st31 _ ?_
          show Steps p.tables e below (T31.setTop (mkF m 78 #[.val (.int p1), .val (.int ((p1 &&& (2147483647 : Int32)) % (5 : Int32))), .val (.ref w_IN_PROGRESS), .val (.int (0 : Int32)), .val (.int (f1 w_IN_PROGRESS w_PENDING w_READY w_CANCELLED)), .unset] [(.ref w_PENDING), (.ref w_IN_PROGRESS)])) _
          refine Jvm.RoadKit.acmp (g := (mkF m 78 #[.val (.int p1), .val (.int ((p1 &&& (2147483647 : Int32)) % (5 : Int32))), .val (.ref w_IN_PROGRESS), .val (.int (0 : Int32)), .val (.int (f1 w_IN_PROGRESS w_PENDING w_READY w_CANCELLED)), .unset] [(.ref w_PENDING), (.ref w_IN_PROGRESS)])) X31 hx rfl rfl rfl (pc0 := 78) (pc' := 81) (same := false) rfl (hb hby at_78) rfl (decide_eq_false fun q => ne_w_IN_PROGRESS_w_PENDING (Value.ref.inj q)) (by decide) (by decide) ?_
          show Steps p.tables e below (T31.setTop (mkF m 81 #[.val (.int p1), .val (.int ((p1 &&& (2147483647 : Int32)) % (5 : Int32))), .val (.ref w_IN_PROGRESS), .val (.int (0 : Int32)), .val (.int (f1 w_IN_PROGRESS w_PENDING w_READY w_CANCELLED)), .unset] [])) _
          refine st32 _ ?_
          show Steps p.tables e below (T32.setTop (mkF m 84 #[.val (.int p1), .val (.int ((p1 &&& (2147483647 : Int32)) % (5 : Int32))), .val (.ref w_IN_PROGRESS), .val (.int (0 : Int32)), .val (.int (f1 w_IN_PROGRESS w_PENDING w_READY w_CANCELLED)), .unset] [(.ref w_PENDING)])) _
          refine XS.aloadN X32.here hx rfl (hb hby at_84) rfl rfl ?_
          show Steps p.tables e below (T32.setTop (mkF m 85 #[.val (.int p1), .val (.int ((p1 &&& (2147483647 : Int32)) % (5 : Int32))), .val (.ref w_IN_PROGRESS), .val (.int (0 : Int32)), .val (.int (f1 w_IN_PROGRESS w_PENDING w_READY w_CANCELLED)), .unset] [(.ref w_IN_PROGRESS), (.ref w_PENDING)])) _
          refine st33.trans ?_
          exact k)
        by_cases hc36 : (f2 w_IN_PROGRESS w_READY w_CANCELLED) = (0 : Int32)
        ·  -- pc 88: (f2 w_IN_PROGRESS w_READY w_CANCELLED) = (0 : Int32)
          have pre37 : ∀ t, Steps p.tables e below (T33.setTop (mkF m 101 #[.val (.int p1), .val (.int ((p1 &&& (2147483647 : Int32)) % (5 : Int32))), .val (.ref w_IN_PROGRESS), .val (.int (0 : Int32)), .val (.int (f1 w_IN_PROGRESS w_PENDING w_READY w_CANCELLED)), .val (.int (0 : Int32))] [(.int (0 : Int32)), (.int (f1 w_IN_PROGRESS w_PENDING w_READY w_CANCELLED))])) t → Steps p.tables e below (s₁.setTop (entryFrame m #[(.int p1)] maxLocals)) t := fun t k => pre35 t (by
            show Steps p.tables e below (T33.setTop (mkF m 88 #[.val (.int p1), .val (.int ((p1 &&& (2147483647 : Int32)) % (5 : Int32))), .val (.ref w_IN_PROGRESS), .val (.int (0 : Int32)), .val (.int (f1 w_IN_PROGRESS w_PENDING w_READY w_CANCELLED)), .unset] [(.int (f2 w_IN_PROGRESS w_READY w_CANCELLED))])) _
            refine XS.ifYes X33.here hx rfl (pc0 := 88) (pc' := 95) rfl (hb hby at_88) rfl ((if0 _ _).trans (teq hc36).1) (by decide) (by decide) ?_
            show Steps p.tables e below (T33.setTop (mkF m 95 #[.val (.int p1), .val (.int ((p1 &&& (2147483647 : Int32)) % (5 : Int32))), .val (.ref w_IN_PROGRESS), .val (.int (0 : Int32)), .val (.int (f1 w_IN_PROGRESS w_PENDING w_READY w_CANCELLED)), .unset] [])) _
            refine XS.iconst X33.here hx rfl (hb hby at_95) ?_
            show Steps p.tables e below (T33.setTop (mkF m 96 #[.val (.int p1), .val (.int ((p1 &&& (2147483647 : Int32)) % (5 : Int32))), .val (.ref w_IN_PROGRESS), .val (.int (0 : Int32)), .val (.int (f1 w_IN_PROGRESS w_PENDING w_READY w_CANCELLED)), .unset] [(.int (0 : Int32))])) _
            refine XS.istore X33.here hx rfl (hb hby at_96) rfl (l' := #[.val (.int p1), .val (.int ((p1 &&& (2147483647 : Int32)) % (5 : Int32))), .val (.ref w_IN_PROGRESS), .val (.int (0 : Int32)), .val (.int (f1 w_IN_PROGRESS w_PENDING w_READY w_CANCELLED)), .val (.int (0 : Int32))]) rfl ?_
            show Steps p.tables e below (T33.setTop (mkF m 98 #[.val (.int p1), .val (.int ((p1 &&& (2147483647 : Int32)) % (5 : Int32))), .val (.ref w_IN_PROGRESS), .val (.int (0 : Int32)), .val (.int (f1 w_IN_PROGRESS w_PENDING w_READY w_CANCELLED)), .val (.int (0 : Int32))] [])) _
            refine XS.iload X33.here hx rfl (hb hby at_98) rfl ?_
            show Steps p.tables e below (T33.setTop (mkF m 100 #[.val (.int p1), .val (.int ((p1 &&& (2147483647 : Int32)) % (5 : Int32))), .val (.ref w_IN_PROGRESS), .val (.int (0 : Int32)), .val (.int (f1 w_IN_PROGRESS w_PENDING w_READY w_CANCELLED)), .val (.int (0 : Int32))] [(.int (f1 w_IN_PROGRESS w_PENDING w_READY w_CANCELLED))])) _
            refine XS.iloadN X33.here hx rfl (hb hby at_100) rfl ?_
            exact k)
          by_cases hc38 : (f1 w_IN_PROGRESS w_PENDING w_READY w_CANCELLED) = (0 : Int32)
          ·  -- pc 101: (f1 w_IN_PROGRESS w_PENDING w_READY w_CANCELLED) = (0 : Int32)
            obtain ⟨fs, hr, hrun, hended, hW, hsame⟩ := X33.leave (v := some (.int (1 : Int32))) (fun h => by rw [Bd.returns] at h; cases h) Bd.notSynchronized
            refine ⟨_, _, pre37 _ ?_, hrun, hended, _, _, rfl, ?_, ⟨_, rfl⟩, hW, hsame.mono (by decide) (by decide)⟩
            · show Steps p.tables e below (T33.setTop (mkF m 101 #[.val (.int p1), .val (.int ((p1 &&& (2147483647 : Int32)) % (5 : Int32))), .val (.ref w_IN_PROGRESS), .val (.int (0 : Int32)), .val (.int (f1 w_IN_PROGRESS w_PENDING w_READY w_CANCELLED)), .val (.int (0 : Int32))] [(.int (0 : Int32)), (.int (f1 w_IN_PROGRESS w_PENDING w_READY w_CANCELLED))])) _
              refine XS.icmpNo X33.here hx rfl (hb hby at_101) rfl (teq hc38).2 ?_
              show Steps p.tables e below (T33.setTop (mkF m 104 #[.val (.int p1), .val (.int ((p1 &&& (2147483647 : Int32)) % (5 : Int32))), .val (.ref w_IN_PROGRESS), .val (.int (0 : Int32)), .val (.int (f1 w_IN_PROGRESS w_PENDING w_READY w_CANCELLED)), .val (.int (0 : Int32))] [])) _
              refine XS.iload X33.here hx rfl (hb hby at_104) rfl ?_
              show Steps p.tables e below (T33.setTop (mkF m 106 #[.val (.int p1), .val (.int ((p1 &&& (2147483647 : Int32)) % (5 : Int32))), .val (.ref w_IN_PROGRESS), .val (.int (0 : Int32)), .val (.int (f1 w_IN_PROGRESS w_PENDING w_READY w_CANCELLED)), .val (.int (0 : Int32))] [(.int (f1 w_IN_PROGRESS w_PENDING w_READY w_CANCELLED))])) _
              refine XS.iload X33.here hx rfl (hb hby at_106) rfl ?_
              show Steps p.tables e below (T33.setTop (mkF m 108 #[.val (.int p1), .val (.int ((p1 &&& (2147483647 : Int32)) % (5 : Int32))), .val (.ref w_IN_PROGRESS), .val (.int (0 : Int32)), .val (.int (f1 w_IN_PROGRESS w_PENDING w_READY w_CANCELLED)), .val (.int (0 : Int32))] [(.int (0 : Int32)), (.int (f1 w_IN_PROGRESS w_PENDING w_READY w_CANCELLED))])) _
              refine XS.icmpNo X33.here hx rfl (hb hby at_108) rfl (teq hc38).2 ?_
              show Steps p.tables e below (T33.setTop (mkF m 111 #[.val (.int p1), .val (.int ((p1 &&& (2147483647 : Int32)) % (5 : Int32))), .val (.ref w_IN_PROGRESS), .val (.int (0 : Int32)), .val (.int (f1 w_IN_PROGRESS w_PENDING w_READY w_CANCELLED)), .val (.int (0 : Int32))] [])) _
              refine XS.iconst X33.here hx rfl (hb hby at_111) ?_
              show Steps p.tables e below (T33.setTop (mkF m 112 #[.val (.int p1), .val (.int ((p1 &&& (2147483647 : Int32)) % (5 : Int32))), .val (.ref w_IN_PROGRESS), .val (.int (0 : Int32)), .val (.int (f1 w_IN_PROGRESS w_PENDING w_READY w_CANCELLED)), .val (.int (0 : Int32))] [(.int (1 : Int32))])) _
              refine XS.goto X33.here hx rfl (pc0 := 112) (pc' := 116) rfl (hb hby at_112) (by decide) (by decide) ?_
              show Steps p.tables e below (T33.setTop (mkF m 116 #[.val (.int p1), .val (.int ((p1 &&& (2147483647 : Int32)) % (5 : Int32))), .val (.ref w_IN_PROGRESS), .val (.int (0 : Int32)), .val (.int (f1 w_IN_PROGRESS w_PENDING w_READY w_CANCELLED)), .val (.int (0 : Int32))] [(.int (1 : Int32))])) _
              exact retN X33 hx (t := .boolean) Bd.returns (by simp) (hb hby at_116) hr
            · show Q0 Z p1 w_PENDING w_COMPLETED w_READY w_CANCELLED w_IN_PROGRESS h0 n0 _ T33.heap _
              rw [e33]
              exact ⟨(by unfold f0; rw [if_neg hc2, if_neg hc10, if_pos hc27, if_pos hc36, if_pos hc38]), N34⟩
          ·  -- pc 101: not (f1 w_IN_PROGRESS w_PENDING w_READY w_CANCELLED) = (0 : Int32)
            obtain ⟨fs, hr, hrun, hended, hW, hsame⟩ := X33.leave (v := some (.int (0 : Int32))) (fun h => by rw [Bd.returns] at h; cases h) Bd.notSynchronized
            refine ⟨_, _, pre37 _ ?_, hrun, hended, _, _, rfl, ?_, ⟨_, rfl⟩, hW, hsame.mono (by decide) (by decide)⟩
            · show Steps p.tables e below (T33.setTop (mkF m 101 #[.val (.int p1), .val (.int ((p1 &&& (2147483647 : Int32)) % (5 : Int32))), .val (.ref w_IN_PROGRESS), .val (.int (0 : Int32)), .val (.int (f1 w_IN_PROGRESS w_PENDING w_READY w_CANCELLED)), .val (.int (0 : Int32))] [(.int (0 : Int32)), (.int (f1 w_IN_PROGRESS w_PENDING w_READY w_CANCELLED))])) _
              refine XS.icmpYes X33.here hx rfl (pc0 := 101) (pc' := 115) rfl (hb hby at_101) rfl (feq hc38).2 (by decide) (by decide) ?_
              show Steps p.tables e below (T33.setTop (mkF m 115 #[.val (.int p1), .val (.int ((p1 &&& (2147483647 : Int32)) % (5 : Int32))), .val (.ref w_IN_PROGRESS), .val (.int (0 : Int32)), .val (.int (f1 w_IN_PROGRESS w_PENDING w_READY w_CANCELLED)), .val (.int (0 : Int32))] [])) _
              refine XS.iconst X33.here hx rfl (hb hby at_115) ?_
              show Steps p.tables e below (T33.setTop (mkF m 116 #[.val (.int p1), .val (.int ((p1 &&& (2147483647 : Int32)) % (5 : Int32))), .val (.ref w_IN_PROGRESS), .val (.int (0 : Int32)), .val (.int (f1 w_IN_PROGRESS w_PENDING w_READY w_CANCELLED)), .val (.int (0 : Int32))] [(.int (0 : Int32))])) _
              exact retN X33 hx (t := .boolean) Bd.returns (by simp) (hb hby at_116) hr
            · show Q0 Z p1 w_PENDING w_COMPLETED w_READY w_CANCELLED w_IN_PROGRESS h0 n0 _ T33.heap _
              rw [e33]
              exact ⟨(by unfold f0; rw [if_neg hc2, if_neg hc10, if_pos hc27, if_pos hc36, if_neg hc38]), N34⟩
        ·  -- pc 88: not (f2 w_IN_PROGRESS w_READY w_CANCELLED) = (0 : Int32)
          have pre39 : ∀ t, Steps p.tables e below (T33.setTop (mkF m 101 #[.val (.int p1), .val (.int ((p1 &&& (2147483647 : Int32)) % (5 : Int32))), .val (.ref w_IN_PROGRESS), .val (.int (0 : Int32)), .val (.int (f1 w_IN_PROGRESS w_PENDING w_READY w_CANCELLED)), .val (.int (1 : Int32))] [(.int (0 : Int32)), (.int (f1 w_IN_PROGRESS w_PENDING w_READY w_CANCELLED))])) t → Steps p.tables e below (s₁.setTop (entryFrame m #[(.int p1)] maxLocals)) t := fun t k => pre35 t (by
            show Steps p.tables e below (T33.setTop (mkF m 88 #[.val (.int p1), .val (.int ((p1 &&& (2147483647 : Int32)) % (5 : Int32))), .val (.ref w_IN_PROGRESS), .val (.int (0 : Int32)), .val (.int (f1 w_IN_PROGRESS w_PENDING w_READY w_CANCELLED)), .unset] [(.int (f2 w_IN_PROGRESS w_READY w_CANCELLED))])) _
            refine XS.ifNo X33.here hx rfl (hb hby at_88) rfl ((if0 _ _).trans (feq hc36).1) ?_
            show Steps p.tables e below (T33.setTop (mkF m 91 #[.val (.int p1), .val (.int ((p1 &&& (2147483647 : Int32)) % (5 : Int32))), .val (.ref w_IN_PROGRESS), .val (.int (0 : Int32)), .val (.int (f1 w_IN_PROGRESS w_PENDING w_READY w_CANCELLED)), .unset] [])) _
            refine XS.iconst X33.here hx rfl (hb hby at_91) ?_
            show Steps p.tables e below (T33.setTop (mkF m 92 #[.val (.int p1), .val (.int ((p1 &&& (2147483647 : Int32)) % (5 : Int32))), .val (.ref w_IN_PROGRESS), .val (.int (0 : Int32)), .val (.int (f1 w_IN_PROGRESS w_PENDING w_READY w_CANCELLED)), .unset] [(.int (1 : Int32))])) _
            refine XS.goto X33.here hx rfl (pc0 := 92) (pc' := 96) rfl (hb hby at_92) (by decide) (by decide) ?_
            show Steps p.tables e below (T33.setTop (mkF m 96 #[.val (.int p1), .val (.int ((p1 &&& (2147483647 : Int32)) % (5 : Int32))), .val (.ref w_IN_PROGRESS), .val (.int (0 : Int32)), .val (.int (f1 w_IN_PROGRESS w_PENDING w_READY w_CANCELLED)), .unset] [(.int (1 : Int32))])) _
            refine XS.istore X33.here hx rfl (hb hby at_96) rfl (l' := #[.val (.int p1), .val (.int ((p1 &&& (2147483647 : Int32)) % (5 : Int32))), .val (.ref w_IN_PROGRESS), .val (.int (0 : Int32)), .val (.int (f1 w_IN_PROGRESS w_PENDING w_READY w_CANCELLED)), .val (.int (1 : Int32))]) rfl ?_
            show Steps p.tables e below (T33.setTop (mkF m 98 #[.val (.int p1), .val (.int ((p1 &&& (2147483647 : Int32)) % (5 : Int32))), .val (.ref w_IN_PROGRESS), .val (.int (0 : Int32)), .val (.int (f1 w_IN_PROGRESS w_PENDING w_READY w_CANCELLED)), .val (.int (1 : Int32))] [])) _
            refine XS.iload X33.here hx rfl (hb hby at_98) rfl ?_
            show Steps p.tables e below (T33.setTop (mkF m 100 #[.val (.int p1), .val (.int ((p1 &&& (2147483647 : Int32)) % (5 : Int32))), .val (.ref w_IN_PROGRESS), .val (.int (0 : Int32)), .val (.int (f1 w_IN_PROGRESS w_PENDING w_READY w_CANCELLED)), .val (.int (1 : Int32))] [(.int (f1 w_IN_PROGRESS w_PENDING w_READY w_CANCELLED))])) _
            refine XS.iloadN X33.here hx rfl (hb hby at_100) rfl ?_
            exact k)
          by_cases hc40 : (f1 w_IN_PROGRESS w_PENDING w_READY w_CANCELLED) = (0 : Int32)
          ·  -- pc 101: (f1 w_IN_PROGRESS w_PENDING w_READY w_CANCELLED) = (0 : Int32)
            have pre41 : ∀ t, Steps p.tables e below (T33.setTop (mkF m 108 #[.val (.int p1), .val (.int ((p1 &&& (2147483647 : Int32)) % (5 : Int32))), .val (.ref w_IN_PROGRESS), .val (.int (0 : Int32)), .val (.int (f1 w_IN_PROGRESS w_PENDING w_READY w_CANCELLED)), .val (.int (1 : Int32))] [(.int (1 : Int32)), (.int (f1 w_IN_PROGRESS w_PENDING w_READY w_CANCELLED))])) t → Steps p.tables e below (s₁.setTop (entryFrame m #[(.int p1)] maxLocals)) t := fun t k => pre39 t (by
              show Steps p.tables e below (T33.setTop (mkF m 101 #[.val (.int p1), .val (.int ((p1 &&& (2147483647 : Int32)) % (5 : Int32))), .val (.ref w_IN_PROGRESS), .val (.int (0 : Int32)), .val (.int (f1 w_IN_PROGRESS w_PENDING w_READY w_CANCELLED)), .val (.int (1 : Int32))] [(.int (0 : Int32)), (.int (f1 w_IN_PROGRESS w_PENDING w_READY w_CANCELLED))])) _
              refine XS.icmpNo X33.here hx rfl (hb hby at_101) rfl (teq hc40).2 ?_
              show Steps p.tables e below (T33.setTop (mkF m 104 #[.val (.int p1), .val (.int ((p1 &&& (2147483647 : Int32)) % (5 : Int32))), .val (.ref w_IN_PROGRESS), .val (.int (0 : Int32)), .val (.int (f1 w_IN_PROGRESS w_PENDING w_READY w_CANCELLED)), .val (.int (1 : Int32))] [])) _
              refine XS.iload X33.here hx rfl (hb hby at_104) rfl ?_
              show Steps p.tables e below (T33.setTop (mkF m 106 #[.val (.int p1), .val (.int ((p1 &&& (2147483647 : Int32)) % (5 : Int32))), .val (.ref w_IN_PROGRESS), .val (.int (0 : Int32)), .val (.int (f1 w_IN_PROGRESS w_PENDING w_READY w_CANCELLED)), .val (.int (1 : Int32))] [(.int (f1 w_IN_PROGRESS w_PENDING w_READY w_CANCELLED))])) _
              refine XS.iload X33.here hx rfl (hb hby at_106) rfl ?_
              exact k)
            by_cases hc42 : (f1 w_IN_PROGRESS w_PENDING w_READY w_CANCELLED) = (1 : Int32)
            ·  -- pc 108: (f1 w_IN_PROGRESS w_PENDING w_READY w_CANCELLED) = (1 : Int32)
              obtain ⟨fs, hr, hrun, hended, hW, hsame⟩ := X33.leave (v := some (.int (1 : Int32))) (fun h => by rw [Bd.returns] at h; cases h) Bd.notSynchronized
              refine ⟨_, _, pre41 _ ?_, hrun, hended, _, _, rfl, ?_, ⟨_, rfl⟩, hW, hsame.mono (by decide) (by decide)⟩
              · show Steps p.tables e below (T33.setTop (mkF m 108 #[.val (.int p1), .val (.int ((p1 &&& (2147483647 : Int32)) % (5 : Int32))), .val (.ref w_IN_PROGRESS), .val (.int (0 : Int32)), .val (.int (f1 w_IN_PROGRESS w_PENDING w_READY w_CANCELLED)), .val (.int (1 : Int32))] [(.int (1 : Int32)), (.int (f1 w_IN_PROGRESS w_PENDING w_READY w_CANCELLED))])) _
                refine XS.icmpNo X33.here hx rfl (hb hby at_108) rfl (teq hc42).2 ?_
                show Steps p.tables e below (T33.setTop (mkF m 111 #[.val (.int p1), .val (.int ((p1 &&& (2147483647 : Int32)) % (5 : Int32))), .val (.ref w_IN_PROGRESS), .val (.int (0 : Int32)), .val (.int (f1 w_IN_PROGRESS w_PENDING w_READY w_CANCELLED)), .val (.int (1 : Int32))] [])) _
                refine XS.iconst X33.here hx rfl (hb hby at_111) ?_
                show Steps p.tables e below (T33.setTop (mkF m 112 #[.val (.int p1), .val (.int ((p1 &&& (2147483647 : Int32)) % (5 : Int32))), .val (.ref w_IN_PROGRESS), .val (.int (0 : Int32)), .val (.int (f1 w_IN_PROGRESS w_PENDING w_READY w_CANCELLED)), .val (.int (1 : Int32))] [(.int (1 : Int32))])) _
                refine XS.goto X33.here hx rfl (pc0 := 112) (pc' := 116) rfl (hb hby at_112) (by decide) (by decide) ?_
                show Steps p.tables e below (T33.setTop (mkF m 116 #[.val (.int p1), .val (.int ((p1 &&& (2147483647 : Int32)) % (5 : Int32))), .val (.ref w_IN_PROGRESS), .val (.int (0 : Int32)), .val (.int (f1 w_IN_PROGRESS w_PENDING w_READY w_CANCELLED)), .val (.int (1 : Int32))] [(.int (1 : Int32))])) _
                exact retN X33 hx (t := .boolean) Bd.returns (by simp) (hb hby at_116) hr
              · show Q0 Z p1 w_PENDING w_COMPLETED w_READY w_CANCELLED w_IN_PROGRESS h0 n0 _ T33.heap _
                rw [e33]
                exact ⟨(by unfold f0; rw [if_neg hc2, if_neg hc10, if_pos hc27, if_neg hc36, if_pos hc40, if_pos hc42]), N34⟩
            ·  -- pc 108: not (f1 w_IN_PROGRESS w_PENDING w_READY w_CANCELLED) = (1 : Int32)
              obtain ⟨fs, hr, hrun, hended, hW, hsame⟩ := X33.leave (v := some (.int (0 : Int32))) (fun h => by rw [Bd.returns] at h; cases h) Bd.notSynchronized
              refine ⟨_, _, pre41 _ ?_, hrun, hended, _, _, rfl, ?_, ⟨_, rfl⟩, hW, hsame.mono (by decide) (by decide)⟩
              · show Steps p.tables e below (T33.setTop (mkF m 108 #[.val (.int p1), .val (.int ((p1 &&& (2147483647 : Int32)) % (5 : Int32))), .val (.ref w_IN_PROGRESS), .val (.int (0 : Int32)), .val (.int (f1 w_IN_PROGRESS w_PENDING w_READY w_CANCELLED)), .val (.int (1 : Int32))] [(.int (1 : Int32)), (.int (f1 w_IN_PROGRESS w_PENDING w_READY w_CANCELLED))])) _
                refine XS.icmpYes X33.here hx rfl (pc0 := 108) (pc' := 115) rfl (hb hby at_108) rfl (feq hc42).2 (by decide) (by decide) ?_
                show Steps p.tables e below (T33.setTop (mkF m 115 #[.val (.int p1), .val (.int ((p1 &&& (2147483647 : Int32)) % (5 : Int32))), .val (.ref w_IN_PROGRESS), .val (.int (0 : Int32)), .val (.int (f1 w_IN_PROGRESS w_PENDING w_READY w_CANCELLED)), .val (.int (1 : Int32))] [])) _
                refine XS.iconst X33.here hx rfl (hb hby at_115) ?_
                show Steps p.tables e below (T33.setTop (mkF m 116 #[.val (.int p1), .val (.int ((p1 &&& (2147483647 : Int32)) % (5 : Int32))), .val (.ref w_IN_PROGRESS), .val (.int (0 : Int32)), .val (.int (f1 w_IN_PROGRESS w_PENDING w_READY w_CANCELLED)), .val (.int (1 : Int32))] [(.int (0 : Int32))])) _
                exact retN X33 hx (t := .boolean) Bd.returns (by simp) (hb hby at_116) hr
              · show Q0 Z p1 w_PENDING w_COMPLETED w_READY w_CANCELLED w_IN_PROGRESS h0 n0 _ T33.heap _
                rw [e33]
                exact ⟨(by unfold f0; rw [if_neg hc2, if_neg hc10, if_pos hc27, if_neg hc36, if_pos hc40, if_neg hc42]), N34⟩
          ·  -- pc 101: not (f1 w_IN_PROGRESS w_PENDING w_READY w_CANCELLED) = (0 : Int32)
            obtain ⟨fs, hr, hrun, hended, hW, hsame⟩ := X33.leave (v := some (.int (0 : Int32))) (fun h => by rw [Bd.returns] at h; cases h) Bd.notSynchronized
            refine ⟨_, _, pre39 _ ?_, hrun, hended, _, _, rfl, ?_, ⟨_, rfl⟩, hW, hsame.mono (by decide) (by decide)⟩
            · show Steps p.tables e below (T33.setTop (mkF m 101 #[.val (.int p1), .val (.int ((p1 &&& (2147483647 : Int32)) % (5 : Int32))), .val (.ref w_IN_PROGRESS), .val (.int (0 : Int32)), .val (.int (f1 w_IN_PROGRESS w_PENDING w_READY w_CANCELLED)), .val (.int (1 : Int32))] [(.int (0 : Int32)), (.int (f1 w_IN_PROGRESS w_PENDING w_READY w_CANCELLED))])) _
              refine XS.icmpYes X33.here hx rfl (pc0 := 101) (pc' := 115) rfl (hb hby at_101) rfl (feq hc40).2 (by decide) (by decide) ?_
              show Steps p.tables e below (T33.setTop (mkF m 115 #[.val (.int p1), .val (.int ((p1 &&& (2147483647 : Int32)) % (5 : Int32))), .val (.ref w_IN_PROGRESS), .val (.int (0 : Int32)), .val (.int (f1 w_IN_PROGRESS w_PENDING w_READY w_CANCELLED)), .val (.int (1 : Int32))] [])) _
              refine XS.iconst X33.here hx rfl (hb hby at_115) ?_
              show Steps p.tables e below (T33.setTop (mkF m 116 #[.val (.int p1), .val (.int ((p1 &&& (2147483647 : Int32)) % (5 : Int32))), .val (.ref w_IN_PROGRESS), .val (.int (0 : Int32)), .val (.int (f1 w_IN_PROGRESS w_PENDING w_READY w_CANCELLED)), .val (.int (1 : Int32))] [(.int (0 : Int32))])) _
              exact retN X33 hx (t := .boolean) Bd.returns (by simp) (hb hby at_116) hr
            · show Q0 Z p1 w_PENDING w_COMPLETED w_READY w_CANCELLED w_IN_PROGRESS h0 n0 _ T33.heap _
              rw [e33]
              exact ⟨(by unfold f0; rw [if_neg hc2, if_neg hc10, if_pos hc27, if_neg hc36, if_neg hc40]), N34⟩
      ·  -- pc 36: not ((p1 &&& (2147483647 : Int32)) % (5 : Int32)) = (2 : Int32)
        have pre43 : ∀ t, Steps p.tables e below (s₁.setTop (mkF m 50 #[.val (.int p1), .val (.int ((p1 &&& (2147483647 : Int32)) % (5 : Int32))), .unset, .unset, .unset, .unset] [(.int (3 : Int32)), (.int ((p1 &&& (2147483647 : Int32)) % (5 : Int32)))])) t → Steps p.tables e below (s₁.setTop (entryFrame m #[(.int p1)] maxLocals)) t := fun t k => pre26 t (by
          show Steps p.tables e below (s₁.setTop (mkF m 36 #[.val (.int p1), .val (.int ((p1 &&& (2147483647 : Int32)) % (5 : Int32))), .unset, .unset, .unset, .unset] [(.int (2 : Int32)), (.int ((p1 &&& (2147483647 : Int32)) % (5 : Int32)))])) _
          refine XS.icmpYes X0.here hx rfl (pc0 := 36) (pc' := 48) rfl (hb hby at_36) rfl (feq hc27).2 (by decide) (by decide) ?_
          show Steps p.tables e below (s₁.setTop (mkF m 48 #[.val (.int p1), .val (.int ((p1 &&& (2147483647 : Int32)) % (5 : Int32))), .unset, .unset, .unset, .unset] [])) _
          refine XS.iloadN X0.here hx rfl (hb hby at_48) rfl ?_
          show Steps p.tables e below (s₁.setTop (mkF m 49 #[.val (.int p1), .val (.int ((p1 &&& (2147483647 : Int32)) % (5 : Int32))), .unset, .unset, .unset, .unset] [(.int ((p1 &&& (2147483647 : Int32)) % (5 : Int32)))])) _
          refine XS.iconst X0.here hx rfl (hb hby at_49) ?_
          exact k)
        by_cases hc44 : ((p1 &&& (2147483647 : Int32)) % (5 : Int32)) = (3 : Int32)
        ·  -- pc 50: ((p1 &&& (2147483647 : Int32)) % (5 : Int32)) = (3 : Int32)
          obtain ⟨T45, X45, e45, st45⟩ := getS2 X0 hx hZ hown (host := "") (Or.inl (hw _ (List.mem_of_getElem? (i := 10) rfl))) Via.refl e0 (S_COMPLETED.ext O0.2) (g := (mkF m 53 #[.val (.int p1), .val (.int ((p1 &&& (2147483647 : Int32)) % (5 : Int32))), .unset, .unset, .unset, .unset] [])) rfl (hb hby at_53)
          -- pc 69: RevenuePlanStatus.isSetByHand by rm1
          obtain ⟨cq46, kq46, q46a, q46b, q46c⟩ := isOf hZ e45 (E_w_COMPLETED.ext O0.2)
          obtain ⟨_, _, ⟨T46, L46, k46, n46⟩, -, X46, ⟨Lc46, hQ46, l46, y46, z46⟩, st46⟩ := X45.virtualBack hx (y := (⟨"com/example/indenture/indenture/status/RevenuePlanStatus", "isSetByHand", "()Z"⟩ : MethodName)) (z := (⟨"com/example/indenture/indenture/status/RevenuePlanStatus", "isSetByHand", "()Z"⟩ : MethodName)) hown (mvT hZ (hw _ (List.mem_of_getElem? (i := 4) rfl))) (mvT hZ (hw _ (List.mem_of_getElem? (i := 5) rfl))) (notFace_of_selects (args := #[]) (mvT hZ (hw _ (List.mem_of_getElem? (i := 7) rfl)))) (mvT hZ (hw _ (List.mem_of_getElem? (i := 7) rfl))) (mvT hZ (hw _ (List.mem_of_getElem? (i := 6) rfl))) (by decide) (backOf (W := 0) (rm1 l Z a0 hw [] w_COMPLETED w_PENDING w_READY w_CANCELLED h0 n0 Z0 (S_PENDING.ext O0.2) (S_READY.ext O0.2) (S_CANCELLED.ext O0.2)) hZ (hw _ (List.mem_of_getElem? (i := 8) rfl)) (hw _ (List.mem_of_getElem? (i := 2) rfl)) (by decide) (by decide)) q46a q46c (g := (mkF m 69 #[.val (.int p1), .val (.int ((p1 &&& (2147483647 : Int32)) % (5 : Int32))), .val (.ref w_COMPLETED), .val (.int (0 : Int32)), .unset, .unset] [(.ref w_COMPLETED)])) rfl (by rw [hml]; rfl) (Steps.refl _) (argsL := []) (rest := []) (lenOf pd_34 rfl) rfl (by show 2 * 0 + _ ≤ _; exact Nat.le_of_eq rfl) (hb hby at_69) (fun _ _ => ⟨rfl, e45, (by decide : 0 + 0 ≤ _), (by decide : 0 + 0 ≤ _)⟩)
          dsimp only [Pt.U, Pt.locs, Pt.cells, Pt.slots] at X46 l46 y46 z46 st46 hQ46
          subst l46 y46 z46
          obtain ⟨rfl, N46q, e46⟩ := hQ46
          have N47 := Fr.app N0 N46q
          obtain ⟨T48, X48, e48, st48⟩ := getS2 X46 hx hZ hown (host := "") (Or.inl (hw _ (List.mem_of_getElem? (i := 1) rfl))) Via.refl e46 (S_PENDING.ext O0.2) (g := (mkF m 75 #[.val (.int p1), .val (.int ((p1 &&& (2147483647 : Int32)) % (5 : Int32))), .val (.ref w_COMPLETED), .val (.int (0 : Int32)), .val (.int (f1 w_COMPLETED w_PENDING w_READY w_CANCELLED)), .unset] [(.ref w_COMPLETED)])) rfl (hb hby at_75)
          obtain ⟨T49, X49, e49, st49⟩ := getS2 X48 hx hZ hown (host := "") (Or.inl (hw _ (List.mem_of_getElem? (i := 1) rfl))) Via.refl e48 (S_PENDING.ext O0.2) (g := (mkF m 81 #[.val (.int p1), .val (.int ((p1 &&& (2147483647 : Int32)) % (5 : Int32))), .val (.ref w_COMPLETED), .val (.int (0 : Int32)), .val (.int (f1 w_COMPLETED w_PENDING w_READY w_CANCELLED)), .unset] [])) rfl (hb hby at_81)
          -- pc 85: RevenuePlanStatus.canMoveTo by rm2
          obtain ⟨cq50, kq50, q50a, q50b, q50c⟩ := isOf hZ e49 (E_w_PENDING.ext O0.2)
          obtain ⟨_, _, ⟨T50, L50, k50, n50⟩, -, X50, ⟨Lc50, hQ50, l50, y50, z50⟩, st50⟩ := X49.virtualBack hx (y := (⟨"com/example/indenture/indenture/status/RevenuePlanStatus", "canMoveTo", "(Lcom/example/indenture/indenture/status/RevenuePlanStatus;)Z"⟩ : MethodName)) (z := (⟨"com/example/indenture/indenture/status/RevenuePlanStatus", "canMoveTo", "(Lcom/example/indenture/indenture/status/RevenuePlanStatus;)Z"⟩ : MethodName)) hown (mvT hZ (hw _ (List.mem_of_getElem? (i := 16) rfl))) (mvT hZ (hw _ (List.mem_of_getElem? (i := 17) rfl))) (notFace_of_selects (args := #[]) (mvT hZ (hw _ (List.mem_of_getElem? (i := 19) rfl)))) (mvT hZ (hw _ (List.mem_of_getElem? (i := 19) rfl))) (mvT hZ (hw _ (List.mem_of_getElem? (i := 18) rfl))) (by decide) (backOf (W := 0) (rm2 l Z a0 hw [] w_PENDING w_COMPLETED w_READY w_CANCELLED h0 n0 Z0 (E_w_PENDING.ext O0.2) (F_ordinal_w_PENDING.ext O0.2) (S_READY.ext O0.2) (S_CANCELLED.ext O0.2)) hZ (hw _ (List.mem_of_getElem? (i := 20) rfl)) (hw _ (List.mem_of_getElem? (i := 2) rfl)) (by decide) (by decide)) q50a q50c (g := (mkF m 85 #[.val (.int p1), .val (.int ((p1 &&& (2147483647 : Int32)) % (5 : Int32))), .val (.ref w_COMPLETED), .val (.int (0 : Int32)), .val (.int (f1 w_COMPLETED w_PENDING w_READY w_CANCELLED)), .unset] [(.ref w_COMPLETED), (.ref w_PENDING)])) rfl (by rw [hml]; rfl) (Steps.refl _) (argsL := [(.ref w_COMPLETED)]) (rest := []) (lenOf pd_35 rfl) rfl (by show 2 * 0 + _ ≤ _; exact Nat.le_of_eq rfl) (hb hby at_85) (fun _ _ => ⟨rfl, e49, (by decide : 0 + 0 ≤ _), (by decide : 0 + 0 ≤ _)⟩)
          dsimp only [Pt.U, Pt.locs, Pt.cells, Pt.slots] at X50 l50 y50 z50 st50 hQ50
          subst l50 y50 z50
          obtain ⟨rfl, N50q, e50⟩ := hQ50
          have N51 := Fr.app N47 N50q
          have pre52 : ∀ t, Steps p.tables e below (T50.setTop (mkF m 88 #[.val (.int p1), .val (.int ((p1 &&& (2147483647 : Int32)) % (5 : Int32))), .val (.ref w_COMPLETED), .val (.int (0 : Int32)), .val (.int (f1 w_COMPLETED w_PENDING w_READY w_CANCELLED)), .unset] [(.int (f2 w_COMPLETED w_READY w_CANCELLED))])) t → Steps p.tables e below (s₁.setTop (entryFrame m #[(.int p1)] maxLocals)) t := fun t k => pre43 t (by
            show Steps p.tables e below (s₁.setTop (mkF m 50 #[.val (.int p1), .val (.int ((p1 &&& (2147483647 : Int32)) % (5 : Int32))), .unset, .unset, .unset, .unset] [(.int (3 : Int32)), (.int ((p1 &&& (2147483647 : Int32)) % (5 : Int32)))])) _
            refine XS.icmpNo X0.here hx rfl (hb hby at_50) rfl (teq hc44).2 ?_
            show Steps p.tables e below (s₁.setTop (mkF m 53 #[.val (.int p1), .val (.int ((p1 &&& (2147483647 : Int32)) % (5 : Int32))), .unset, .unset, .unset, .unset] [])) _
            refine st45 _ ?_
            show Steps p.tables e below (T45.setTop (mkF m 56 #[.val (.int p1), .val (.int ((p1 &&& (2147483647 : Int32)) % (5 : Int32))), .unset, .unset, .unset, .unset] [(.ref w_COMPLETED)])) _
            refine XS.astoreN X45.here hx rfl (hb hby at_56) rfl rfl (l' := #[.val (.int p1), .val (.int ((p1 &&& (2147483647 : Int32)) % (5 : Int32))), .val (.ref w_COMPLETED), .unset, .unset, .unset]) rfl ?_
            show Steps p.tables e below (T45.setTop (mkF m 57 #[.val (.int p1), .val (.int ((p1 &&& (2147483647 : Int32)) % (5 : Int32))), .val (.ref w_COMPLETED), .unset, .unset, .unset] [])) _
            refine XS.iconst X45.here hx rfl (hb hby at_57) ?_
            show Steps p.tables e below (T45.setTop (mkF m 58 #[.val (.int p1), .val (.int ((p1 &&& (2147483647 : Int32)) % (5 : Int32))), .val (.ref w_COMPLETED), .unset, .unset, .unset] [(.int (0 : Int32))])) _
            refine XS.istoreN X45.here hx rfl (hb hby at_58) rfl (l' := #[.val (.int p1), .val (.int ((p1 &&& (2147483647 : Int32)) % (5 : Int32))), .val (.ref w_COMPLETED), .val (.int (0 : Int32)), .unset, .unset]) rfl ?_
            show Steps p.tables e below (T45.setTop (mkF m 59 #[.val (.int p1), .val (.int ((p1 &&& (2147483647 : Int32)) % (5 : Int32))), .val (.ref w_COMPLETED), .val (.int (0 : Int32)), .unset, .unset] [])) _
            refine XS.goto X45.here hx rfl (pc0 := 59) (pc' := 68) rfl (hb hby at_59) (by decide) (by decide) ?_
            show Steps p.tables e below (T45.setTop (mkF m 68 #[.val (.int p1), .val (.int ((p1 &&& (2147483647 : Int32)) % (5 : Int32))), .val (.ref w_COMPLETED), .val (.int (0 : Int32)), .unset, .unset] [])) _
            refine XS.aloadN X45.here hx rfl (hb hby at_68) rfl rfl ?_
            show Steps p.tables e below (T45.setTop (mkF m 69 #[.val (.int p1), .val (.int ((p1 &&& (2147483647 : Int32)) % (5 : Int32))), .val (.ref w_COMPLETED), .val (.int (0 : Int32)), .unset, .unset] [(.ref w_COMPLETED)])) _
            refine st46.trans ?_
            show Steps p.tables e below (T46.setTop (mkF m 72 #[.val (.int p1), .val (.int ((p1 &&& (2147483647 : Int32)) % (5 : Int32))), .val (.ref w_COMPLETED), .val (.int (0 : Int32)), .unset, .unset] [(.int (f1 w_COMPLETED w_PENDING w_READY w_CANCELLED))])) _
            refine XS.istore X46.here hx rfl (hb hby at_72) rfl (l' := #[.val (.int p1), .val (.int ((p1 &&& (2147483647 : Int32)) % (5 : Int32))), .val (.ref w_COMPLETED), .val (.int (0 : Int32)), .val (.int (f1 w_COMPLETED w_PENDING w_READY w_CANCELLED)), .unset]) rfl ?_
            show Steps p.tables e below (T46.setTop (mkF m 74 #[.val (.int p1), .val (.int ((p1 &&& (2147483647 : Int32)) % (5 : Int32))), .val (.ref w_COMPLETED), .val (.int (0 : Int32)), .val (.int (f1 w_COMPLETED w_PENDING w_READY w_CANCELLED)), .unset] [])) _
            refine XS.aloadN X46.here hx rfl (hb hby at_74) rfl rfl ?_
            show Steps p.tables e below (T46.setTop (mkF m 75 #[.val (.int p1), .val (.int ((p1 &&& (2147483647 : Int32)) % (5 : Int32))), .val (.ref w_COMPLETED), .val (.int (0 : Int32)), .val (.int (f1 w_COMPLETED w_PENDING w_READY w_CANCELLED)), .unset] [(.ref w_COMPLETED)])) _
            refine st48 _ ?_
            show Steps p.tables e below (T48.setTop (mkF m 78 #[.val (.int p1), .val (.int ((p1 &&& (2147483647 : Int32)) % (5 : Int32))), .val (.ref w_COMPLETED), .val (.int (0 : Int32)), .val (.int (f1 w_COMPLETED w_PENDING w_READY w_CANCELLED)), .unset] [(.ref w_PENDING), (.ref w_COMPLETED)])) _
            refine Jvm.RoadKit.acmp (g := (mkF m 78 #[.val (.int p1), .val (.int ((p1 &&& (2147483647 : Int32)) % (5 : Int32))), .val (.ref w_COMPLETED), .val (.int (0 : Int32)), .val (.int (f1 w_COMPLETED w_PENDING w_READY w_CANCELLED)), .unset] [(.ref w_PENDING), (.ref w_COMPLETED)])) X48 hx rfl rfl rfl (pc0 := 78) (pc' := 81) (same := false) rfl (hb hby at_78) rfl (decide_eq_false fun q => ne_w_COMPLETED_w_PENDING (Value.ref.inj q)) (by decide) (by decide) ?_
            show Steps p.tables e below (T48.setTop (mkF m 81 #[.val (.int p1), .val (.int ((p1 &&& (2147483647 : Int32)) % (5 : Int32))), .val (.ref w_COMPLETED), .val (.int (0 : Int32)), .val (.int (f1 w_COMPLETED w_PENDING w_READY w_CANCELLED)), .unset] [])) _
            refine st49 _ ?_
            show Steps p.tables e below (T49.setTop (mkF m 84 #[.val (.int p1), .val (.int ((p1 &&& (2147483647 : Int32)) % (5 : Int32))), .val (.ref w_COMPLETED), .val (.int (0 : Int32)), .val (.int (f1 w_COMPLETED w_PENDING w_READY w_CANCELLED)), .unset] [(.ref w_PENDING)])) _
            refine XS.aloadN X49.here hx rfl (hb hby at_84) rfl rfl ?_
            show Steps p.tables e below (T49.setTop (mkF m 85 #[.val (.int p1), .val (.int ((p1 &&& (2147483647 : Int32)) % (5 : Int32))), .val (.ref w_COMPLETED), .val (.int (0 : Int32)), .val (.int (f1 w_COMPLETED w_PENDING w_READY w_CANCELLED)), .unset] [(.ref w_COMPLETED), (.ref w_PENDING)])) _
            refine st50.trans ?_
            exact k)
          by_cases hc53 : (f2 w_COMPLETED w_READY w_CANCELLED) = (0 : Int32)
          ·  -- pc 88: (f2 w_COMPLETED w_READY w_CANCELLED) = (0 : Int32)
            have pre54 : ∀ t, Steps p.tables e below (T50.setTop (mkF m 101 #[.val (.int p1), .val (.int ((p1 &&& (2147483647 : Int32)) % (5 : Int32))), .val (.ref w_COMPLETED), .val (.int (0 : Int32)), .val (.int (f1 w_COMPLETED w_PENDING w_READY w_CANCELLED)), .val (.int (0 : Int32))] [(.int (0 : Int32)), (.int (f1 w_COMPLETED w_PENDING w_READY w_CANCELLED))])) t → Steps p.tables e below (s₁.setTop (entryFrame m #[(.int p1)] maxLocals)) t := fun t k => pre52 t (by
              show Steps p.tables e below (T50.setTop (mkF m 88 #[.val (.int p1), .val (.int ((p1 &&& (2147483647 : Int32)) % (5 : Int32))), .val (.ref w_COMPLETED), .val (.int (0 : Int32)), .val (.int (f1 w_COMPLETED w_PENDING w_READY w_CANCELLED)), .unset] [(.int (f2 w_COMPLETED w_READY w_CANCELLED))])) _
              refine XS.ifYes X50.here hx rfl (pc0 := 88) (pc' := 95) rfl (hb hby at_88) rfl ((if0 _ _).trans (teq hc53).1) (by decide) (by decide) ?_
              show Steps p.tables e below (T50.setTop (mkF m 95 #[.val (.int p1), .val (.int ((p1 &&& (2147483647 : Int32)) % (5 : Int32))), .val (.ref w_COMPLETED), .val (.int (0 : Int32)), .val (.int (f1 w_COMPLETED w_PENDING w_READY w_CANCELLED)), .unset] [])) _
              refine XS.iconst X50.here hx rfl (hb hby at_95) ?_
              show Steps p.tables e below (T50.setTop (mkF m 96 #[.val (.int p1), .val (.int ((p1 &&& (2147483647 : Int32)) % (5 : Int32))), .val (.ref w_COMPLETED), .val (.int (0 : Int32)), .val (.int (f1 w_COMPLETED w_PENDING w_READY w_CANCELLED)), .unset] [(.int (0 : Int32))])) _
              refine XS.istore X50.here hx rfl (hb hby at_96) rfl (l' := #[.val (.int p1), .val (.int ((p1 &&& (2147483647 : Int32)) % (5 : Int32))), .val (.ref w_COMPLETED), .val (.int (0 : Int32)), .val (.int (f1 w_COMPLETED w_PENDING w_READY w_CANCELLED)), .val (.int (0 : Int32))]) rfl ?_
              show Steps p.tables e below (T50.setTop (mkF m 98 #[.val (.int p1), .val (.int ((p1 &&& (2147483647 : Int32)) % (5 : Int32))), .val (.ref w_COMPLETED), .val (.int (0 : Int32)), .val (.int (f1 w_COMPLETED w_PENDING w_READY w_CANCELLED)), .val (.int (0 : Int32))] [])) _
              refine XS.iload X50.here hx rfl (hb hby at_98) rfl ?_
              show Steps p.tables e below (T50.setTop (mkF m 100 #[.val (.int p1), .val (.int ((p1 &&& (2147483647 : Int32)) % (5 : Int32))), .val (.ref w_COMPLETED), .val (.int (0 : Int32)), .val (.int (f1 w_COMPLETED w_PENDING w_READY w_CANCELLED)), .val (.int (0 : Int32))] [(.int (f1 w_COMPLETED w_PENDING w_READY w_CANCELLED))])) _
              refine XS.iloadN X50.here hx rfl (hb hby at_100) rfl ?_
              exact k)
            by_cases hc55 : (f1 w_COMPLETED w_PENDING w_READY w_CANCELLED) = (0 : Int32)
            ·  -- pc 101: (f1 w_COMPLETED w_PENDING w_READY w_CANCELLED) = (0 : Int32)
              obtain ⟨fs, hr, hrun, hended, hW, hsame⟩ := X50.leave (v := some (.int (1 : Int32))) (fun h => by rw [Bd.returns] at h; cases h) Bd.notSynchronized
              refine ⟨_, _, pre54 _ ?_, hrun, hended, _, _, rfl, ?_, ⟨_, rfl⟩, hW, hsame.mono (by decide) (by decide)⟩
              · show Steps p.tables e below (T50.setTop (mkF m 101 #[.val (.int p1), .val (.int ((p1 &&& (2147483647 : Int32)) % (5 : Int32))), .val (.ref w_COMPLETED), .val (.int (0 : Int32)), .val (.int (f1 w_COMPLETED w_PENDING w_READY w_CANCELLED)), .val (.int (0 : Int32))] [(.int (0 : Int32)), (.int (f1 w_COMPLETED w_PENDING w_READY w_CANCELLED))])) _
                refine XS.icmpNo X50.here hx rfl (hb hby at_101) rfl (teq hc55).2 ?_
                show Steps p.tables e below (T50.setTop (mkF m 104 #[.val (.int p1), .val (.int ((p1 &&& (2147483647 : Int32)) % (5 : Int32))), .val (.ref w_COMPLETED), .val (.int (0 : Int32)), .val (.int (f1 w_COMPLETED w_PENDING w_READY w_CANCELLED)), .val (.int (0 : Int32))] [])) _
                refine XS.iload X50.here hx rfl (hb hby at_104) rfl ?_
                show Steps p.tables e below (T50.setTop (mkF m 106 #[.val (.int p1), .val (.int ((p1 &&& (2147483647 : Int32)) % (5 : Int32))), .val (.ref w_COMPLETED), .val (.int (0 : Int32)), .val (.int (f1 w_COMPLETED w_PENDING w_READY w_CANCELLED)), .val (.int (0 : Int32))] [(.int (f1 w_COMPLETED w_PENDING w_READY w_CANCELLED))])) _
                refine XS.iload X50.here hx rfl (hb hby at_106) rfl ?_
                show Steps p.tables e below (T50.setTop (mkF m 108 #[.val (.int p1), .val (.int ((p1 &&& (2147483647 : Int32)) % (5 : Int32))), .val (.ref w_COMPLETED), .val (.int (0 : Int32)), .val (.int (f1 w_COMPLETED w_PENDING w_READY w_CANCELLED)), .val (.int (0 : Int32))] [(.int (0 : Int32)), (.int (f1 w_COMPLETED w_PENDING w_READY w_CANCELLED))])) _
                refine XS.icmpNo X50.here hx rfl (hb hby at_108) rfl (teq hc55).2 ?_
                show Steps p.tables e below (T50.setTop (mkF m 111 #[.val (.int p1), .val (.int ((p1 &&& (2147483647 : Int32)) % (5 : Int32))), .val (.ref w_COMPLETED), .val (.int (0 : Int32)), .val (.int (f1 w_COMPLETED w_PENDING w_READY w_CANCELLED)), .val (.int (0 : Int32))] [])) _
                refine XS.iconst X50.here hx rfl (hb hby at_111) ?_
                show Steps p.tables e below (T50.setTop (mkF m 112 #[.val (.int p1), .val (.int ((p1 &&& (2147483647 : Int32)) % (5 : Int32))), .val (.ref w_COMPLETED), .val (.int (0 : Int32)), .val (.int (f1 w_COMPLETED w_PENDING w_READY w_CANCELLED)), .val (.int (0 : Int32))] [(.int (1 : Int32))])) _
                refine XS.goto X50.here hx rfl (pc0 := 112) (pc' := 116) rfl (hb hby at_112) (by decide) (by decide) ?_
                show Steps p.tables e below (T50.setTop (mkF m 116 #[.val (.int p1), .val (.int ((p1 &&& (2147483647 : Int32)) % (5 : Int32))), .val (.ref w_COMPLETED), .val (.int (0 : Int32)), .val (.int (f1 w_COMPLETED w_PENDING w_READY w_CANCELLED)), .val (.int (0 : Int32))] [(.int (1 : Int32))])) _
                exact retN X50 hx (t := .boolean) Bd.returns (by simp) (hb hby at_116) hr
              · show Q0 Z p1 w_PENDING w_COMPLETED w_READY w_CANCELLED w_IN_PROGRESS h0 n0 _ T50.heap _
                rw [e50]
                exact ⟨(by unfold f0; rw [if_neg hc2, if_neg hc10, if_neg hc27, if_pos hc44, if_pos hc53, if_pos hc55]), N51⟩
            ·  -- pc 101: not (f1 w_COMPLETED w_PENDING w_READY w_CANCELLED) = (0 : Int32)
              obtain ⟨fs, hr, hrun, hended, hW, hsame⟩ := X50.leave (v := some (.int (0 : Int32))) (fun h => by rw [Bd.returns] at h; cases h) Bd.notSynchronized
              refine ⟨_, _, pre54 _ ?_, hrun, hended, _, _, rfl, ?_, ⟨_, rfl⟩, hW, hsame.mono (by decide) (by decide)⟩
              · show Steps p.tables e below (T50.setTop (mkF m 101 #[.val (.int p1), .val (.int ((p1 &&& (2147483647 : Int32)) % (5 : Int32))), .val (.ref w_COMPLETED), .val (.int (0 : Int32)), .val (.int (f1 w_COMPLETED w_PENDING w_READY w_CANCELLED)), .val (.int (0 : Int32))] [(.int (0 : Int32)), (.int (f1 w_COMPLETED w_PENDING w_READY w_CANCELLED))])) _
                refine XS.icmpYes X50.here hx rfl (pc0 := 101) (pc' := 115) rfl (hb hby at_101) rfl (feq hc55).2 (by decide) (by decide) ?_
                show Steps p.tables e below (T50.setTop (mkF m 115 #[.val (.int p1), .val (.int ((p1 &&& (2147483647 : Int32)) % (5 : Int32))), .val (.ref w_COMPLETED), .val (.int (0 : Int32)), .val (.int (f1 w_COMPLETED w_PENDING w_READY w_CANCELLED)), .val (.int (0 : Int32))] [])) _
                refine XS.iconst X50.here hx rfl (hb hby at_115) ?_
                show Steps p.tables e below (T50.setTop (mkF m 116 #[.val (.int p1), .val (.int ((p1 &&& (2147483647 : Int32)) % (5 : Int32))), .val (.ref w_COMPLETED), .val (.int (0 : Int32)), .val (.int (f1 w_COMPLETED w_PENDING w_READY w_CANCELLED)), .val (.int (0 : Int32))] [(.int (0 : Int32))])) _
                exact retN X50 hx (t := .boolean) Bd.returns (by simp) (hb hby at_116) hr
              · show Q0 Z p1 w_PENDING w_COMPLETED w_READY w_CANCELLED w_IN_PROGRESS h0 n0 _ T50.heap _
                rw [e50]
                exact ⟨(by unfold f0; rw [if_neg hc2, if_neg hc10, if_neg hc27, if_pos hc44, if_pos hc53, if_neg hc55]), N51⟩
          ·  -- pc 88: not (f2 w_COMPLETED w_READY w_CANCELLED) = (0 : Int32)
            have pre56 : ∀ t, Steps p.tables e below (T50.setTop (mkF m 101 #[.val (.int p1), .val (.int ((p1 &&& (2147483647 : Int32)) % (5 : Int32))), .val (.ref w_COMPLETED), .val (.int (0 : Int32)), .val (.int (f1 w_COMPLETED w_PENDING w_READY w_CANCELLED)), .val (.int (1 : Int32))] [(.int (0 : Int32)), (.int (f1 w_COMPLETED w_PENDING w_READY w_CANCELLED))])) t → Steps p.tables e below (s₁.setTop (entryFrame m #[(.int p1)] maxLocals)) t := fun t k => pre52 t (by
              show Steps p.tables e below (T50.setTop (mkF m 88 #[.val (.int p1), .val (.int ((p1 &&& (2147483647 : Int32)) % (5 : Int32))), .val (.ref w_COMPLETED), .val (.int (0 : Int32)), .val (.int (f1 w_COMPLETED w_PENDING w_READY w_CANCELLED)), .unset] [(.int (f2 w_COMPLETED w_READY w_CANCELLED))])) _
              refine XS.ifNo X50.here hx rfl (hb hby at_88) rfl ((if0 _ _).trans (feq hc53).1) ?_
              show Steps p.tables e below (T50.setTop (mkF m 91 #[.val (.int p1), .val (.int ((p1 &&& (2147483647 : Int32)) % (5 : Int32))), .val (.ref w_COMPLETED), .val (.int (0 : Int32)), .val (.int (f1 w_COMPLETED w_PENDING w_READY w_CANCELLED)), .unset] [])) _
              refine XS.iconst X50.here hx rfl (hb hby at_91) ?_
              show Steps p.tables e below (T50.setTop (mkF m 92 #[.val (.int p1), .val (.int ((p1 &&& (2147483647 : Int32)) % (5 : Int32))), .val (.ref w_COMPLETED), .val (.int (0 : Int32)), .val (.int (f1 w_COMPLETED w_PENDING w_READY w_CANCELLED)), .unset] [(.int (1 : Int32))])) _
              refine XS.goto X50.here hx rfl (pc0 := 92) (pc' := 96) rfl (hb hby at_92) (by decide) (by decide) ?_
              show Steps p.tables e below (T50.setTop (mkF m 96 #[.val (.int p1), .val (.int ((p1 &&& (2147483647 : Int32)) % (5 : Int32))), .val (.ref w_COMPLETED), .val (.int (0 : Int32)), .val (.int (f1 w_COMPLETED w_PENDING w_READY w_CANCELLED)), .unset] [(.int (1 : Int32))])) _
              refine XS.istore X50.here hx rfl (hb hby at_96) rfl (l' := #[.val (.int p1), .val (.int ((p1 &&& (2147483647 : Int32)) % (5 : Int32))), .val (.ref w_COMPLETED), .val (.int (0 : Int32)), .val (.int (f1 w_COMPLETED w_PENDING w_READY w_CANCELLED)), .val (.int (1 : Int32))]) rfl ?_
              show Steps p.tables e below (T50.setTop (mkF m 98 #[.val (.int p1), .val (.int ((p1 &&& (2147483647 : Int32)) % (5 : Int32))), .val (.ref w_COMPLETED), .val (.int (0 : Int32)), .val (.int (f1 w_COMPLETED w_PENDING w_READY w_CANCELLED)), .val (.int (1 : Int32))] [])) _
              refine XS.iload X50.here hx rfl (hb hby at_98) rfl ?_
              show Steps p.tables e below (T50.setTop (mkF m 100 #[.val (.int p1), .val (.int ((p1 &&& (2147483647 : Int32)) % (5 : Int32))), .val (.ref w_COMPLETED), .val (.int (0 : Int32)), .val (.int (f1 w_COMPLETED w_PENDING w_READY w_CANCELLED)), .val (.int (1 : Int32))] [(.int (f1 w_COMPLETED w_PENDING w_READY w_CANCELLED))])) _
              refine XS.iloadN X50.here hx rfl (hb hby at_100) rfl ?_
              exact k)
            by_cases hc57 : (f1 w_COMPLETED w_PENDING w_READY w_CANCELLED) = (0 : Int32)
            ·  -- pc 101: (f1 w_COMPLETED w_PENDING w_READY w_CANCELLED) = (0 : Int32)
              have pre58 : ∀ t, Steps p.tables e below (T50.setTop (mkF m 108 #[.val (.int p1), .val (.int ((p1 &&& (2147483647 : Int32)) % (5 : Int32))), .val (.ref w_COMPLETED), .val (.int (0 : Int32)), .val (.int (f1 w_COMPLETED w_PENDING w_READY w_CANCELLED)), .val (.int (1 : Int32))] [(.int (1 : Int32)), (.int (f1 w_COMPLETED w_PENDING w_READY w_CANCELLED))])) t → Steps p.tables e below (s₁.setTop (entryFrame m #[(.int p1)] maxLocals)) t := fun t k => pre56 t (by
                show Steps p.tables e below (T50.setTop (mkF m 101 #[.val (.int p1), .val (.int ((p1 &&& (2147483647 : Int32)) % (5 : Int32))), .val (.ref w_COMPLETED), .val (.int (0 : Int32)), .val (.int (f1 w_COMPLETED w_PENDING w_READY w_CANCELLED)), .val (.int (1 : Int32))] [(.int (0 : Int32)), (.int (f1 w_COMPLETED w_PENDING w_READY w_CANCELLED))])) _
                refine XS.icmpNo X50.here hx rfl (hb hby at_101) rfl (teq hc57).2 ?_
                show Steps p.tables e below (T50.setTop (mkF m 104 #[.val (.int p1), .val (.int ((p1 &&& (2147483647 : Int32)) % (5 : Int32))), .val (.ref w_COMPLETED), .val (.int (0 : Int32)), .val (.int (f1 w_COMPLETED w_PENDING w_READY w_CANCELLED)), .val (.int (1 : Int32))] [])) _
                refine XS.iload X50.here hx rfl (hb hby at_104) rfl ?_
                show Steps p.tables e below (T50.setTop (mkF m 106 #[.val (.int p1), .val (.int ((p1 &&& (2147483647 : Int32)) % (5 : Int32))), .val (.ref w_COMPLETED), .val (.int (0 : Int32)), .val (.int (f1 w_COMPLETED w_PENDING w_READY w_CANCELLED)), .val (.int (1 : Int32))] [(.int (f1 w_COMPLETED w_PENDING w_READY w_CANCELLED))])) _
                refine XS.iload X50.here hx rfl (hb hby at_106) rfl ?_
                exact k)
              by_cases hc59 : (f1 w_COMPLETED w_PENDING w_READY w_CANCELLED) = (1 : Int32)
              ·  -- pc 108: (f1 w_COMPLETED w_PENDING w_READY w_CANCELLED) = (1 : Int32)
                obtain ⟨fs, hr, hrun, hended, hW, hsame⟩ := X50.leave (v := some (.int (1 : Int32))) (fun h => by rw [Bd.returns] at h; cases h) Bd.notSynchronized
                refine ⟨_, _, pre58 _ ?_, hrun, hended, _, _, rfl, ?_, ⟨_, rfl⟩, hW, hsame.mono (by decide) (by decide)⟩
                · show Steps p.tables e below (T50.setTop (mkF m 108 #[.val (.int p1), .val (.int ((p1 &&& (2147483647 : Int32)) % (5 : Int32))), .val (.ref w_COMPLETED), .val (.int (0 : Int32)), .val (.int (f1 w_COMPLETED w_PENDING w_READY w_CANCELLED)), .val (.int (1 : Int32))] [(.int (1 : Int32)), (.int (f1 w_COMPLETED w_PENDING w_READY w_CANCELLED))])) _
                  refine XS.icmpNo X50.here hx rfl (hb hby at_108) rfl (teq hc59).2 ?_
                  show Steps p.tables e below (T50.setTop (mkF m 111 #[.val (.int p1), .val (.int ((p1 &&& (2147483647 : Int32)) % (5 : Int32))), .val (.ref w_COMPLETED), .val (.int (0 : Int32)), .val (.int (f1 w_COMPLETED w_PENDING w_READY w_CANCELLED)), .val (.int (1 : Int32))] [])) _
                  refine XS.iconst X50.here hx rfl (hb hby at_111) ?_
                  show Steps p.tables e below (T50.setTop (mkF m 112 #[.val (.int p1), .val (.int ((p1 &&& (2147483647 : Int32)) % (5 : Int32))), .val (.ref w_COMPLETED), .val (.int (0 : Int32)), .val (.int (f1 w_COMPLETED w_PENDING w_READY w_CANCELLED)), .val (.int (1 : Int32))] [(.int (1 : Int32))])) _
                  refine XS.goto X50.here hx rfl (pc0 := 112) (pc' := 116) rfl (hb hby at_112) (by decide) (by decide) ?_
                  show Steps p.tables e below (T50.setTop (mkF m 116 #[.val (.int p1), .val (.int ((p1 &&& (2147483647 : Int32)) % (5 : Int32))), .val (.ref w_COMPLETED), .val (.int (0 : Int32)), .val (.int (f1 w_COMPLETED w_PENDING w_READY w_CANCELLED)), .val (.int (1 : Int32))] [(.int (1 : Int32))])) _
                  exact retN X50 hx (t := .boolean) Bd.returns (by simp) (hb hby at_116) hr
                · show Q0 Z p1 w_PENDING w_COMPLETED w_READY w_CANCELLED w_IN_PROGRESS h0 n0 _ T50.heap _
                  rw [e50]
                  exact ⟨(by unfold f0; rw [if_neg hc2, if_neg hc10, if_neg hc27, if_pos hc44, if_neg hc53, if_pos hc57, if_pos hc59]), N51⟩
              ·  -- pc 108: not (f1 w_COMPLETED w_PENDING w_READY w_CANCELLED) = (1 : Int32)
                obtain ⟨fs, hr, hrun, hended, hW, hsame⟩ := X50.leave (v := some (.int (0 : Int32))) (fun h => by rw [Bd.returns] at h; cases h) Bd.notSynchronized
                refine ⟨_, _, pre58 _ ?_, hrun, hended, _, _, rfl, ?_, ⟨_, rfl⟩, hW, hsame.mono (by decide) (by decide)⟩
                · show Steps p.tables e below (T50.setTop (mkF m 108 #[.val (.int p1), .val (.int ((p1 &&& (2147483647 : Int32)) % (5 : Int32))), .val (.ref w_COMPLETED), .val (.int (0 : Int32)), .val (.int (f1 w_COMPLETED w_PENDING w_READY w_CANCELLED)), .val (.int (1 : Int32))] [(.int (1 : Int32)), (.int (f1 w_COMPLETED w_PENDING w_READY w_CANCELLED))])) _
                  refine XS.icmpYes X50.here hx rfl (pc0 := 108) (pc' := 115) rfl (hb hby at_108) rfl (feq hc59).2 (by decide) (by decide) ?_
                  show Steps p.tables e below (T50.setTop (mkF m 115 #[.val (.int p1), .val (.int ((p1 &&& (2147483647 : Int32)) % (5 : Int32))), .val (.ref w_COMPLETED), .val (.int (0 : Int32)), .val (.int (f1 w_COMPLETED w_PENDING w_READY w_CANCELLED)), .val (.int (1 : Int32))] [])) _
                  refine XS.iconst X50.here hx rfl (hb hby at_115) ?_
                  show Steps p.tables e below (T50.setTop (mkF m 116 #[.val (.int p1), .val (.int ((p1 &&& (2147483647 : Int32)) % (5 : Int32))), .val (.ref w_COMPLETED), .val (.int (0 : Int32)), .val (.int (f1 w_COMPLETED w_PENDING w_READY w_CANCELLED)), .val (.int (1 : Int32))] [(.int (0 : Int32))])) _
                  exact retN X50 hx (t := .boolean) Bd.returns (by simp) (hb hby at_116) hr
                · show Q0 Z p1 w_PENDING w_COMPLETED w_READY w_CANCELLED w_IN_PROGRESS h0 n0 _ T50.heap _
                  rw [e50]
                  exact ⟨(by unfold f0; rw [if_neg hc2, if_neg hc10, if_neg hc27, if_pos hc44, if_neg hc53, if_pos hc57, if_neg hc59]), N51⟩
            ·  -- pc 101: not (f1 w_COMPLETED w_PENDING w_READY w_CANCELLED) = (0 : Int32)
              obtain ⟨fs, hr, hrun, hended, hW, hsame⟩ := X50.leave (v := some (.int (0 : Int32))) (fun h => by rw [Bd.returns] at h; cases h) Bd.notSynchronized
              refine ⟨_, _, pre56 _ ?_, hrun, hended, _, _, rfl, ?_, ⟨_, rfl⟩, hW, hsame.mono (by decide) (by decide)⟩
              · show Steps p.tables e below (T50.setTop (mkF m 101 #[.val (.int p1), .val (.int ((p1 &&& (2147483647 : Int32)) % (5 : Int32))), .val (.ref w_COMPLETED), .val (.int (0 : Int32)), .val (.int (f1 w_COMPLETED w_PENDING w_READY w_CANCELLED)), .val (.int (1 : Int32))] [(.int (0 : Int32)), (.int (f1 w_COMPLETED w_PENDING w_READY w_CANCELLED))])) _
                refine XS.icmpYes X50.here hx rfl (pc0 := 101) (pc' := 115) rfl (hb hby at_101) rfl (feq hc57).2 (by decide) (by decide) ?_
                show Steps p.tables e below (T50.setTop (mkF m 115 #[.val (.int p1), .val (.int ((p1 &&& (2147483647 : Int32)) % (5 : Int32))), .val (.ref w_COMPLETED), .val (.int (0 : Int32)), .val (.int (f1 w_COMPLETED w_PENDING w_READY w_CANCELLED)), .val (.int (1 : Int32))] [])) _
                refine XS.iconst X50.here hx rfl (hb hby at_115) ?_
                show Steps p.tables e below (T50.setTop (mkF m 116 #[.val (.int p1), .val (.int ((p1 &&& (2147483647 : Int32)) % (5 : Int32))), .val (.ref w_COMPLETED), .val (.int (0 : Int32)), .val (.int (f1 w_COMPLETED w_PENDING w_READY w_CANCELLED)), .val (.int (1 : Int32))] [(.int (0 : Int32))])) _
                exact retN X50 hx (t := .boolean) Bd.returns (by simp) (hb hby at_116) hr
              · show Q0 Z p1 w_PENDING w_COMPLETED w_READY w_CANCELLED w_IN_PROGRESS h0 n0 _ T50.heap _
                rw [e50]
                exact ⟨(by unfold f0; rw [if_neg hc2, if_neg hc10, if_neg hc27, if_pos hc44, if_neg hc53, if_neg hc57]), N51⟩
        ·  -- pc 50: not ((p1 &&& (2147483647 : Int32)) % (5 : Int32)) = (3 : Int32)
          obtain ⟨T60, X60, e60, st60⟩ := getS2 X0 hx hZ hown (host := "") (Or.inl (hw _ (List.mem_of_getElem? (i := 31) rfl))) Via.refl e0 (S_CANCELLED.ext O0.2) (g := (mkF m 62 #[.val (.int p1), .val (.int ((p1 &&& (2147483647 : Int32)) % (5 : Int32))), .unset, .unset, .unset, .unset] [])) rfl (hb hby at_62)
          -- pc 69: RevenuePlanStatus.isSetByHand by rm1
          obtain ⟨cq61, kq61, q61a, q61b, q61c⟩ := isOf hZ e60 (E_w_CANCELLED.ext O0.2)
          obtain ⟨_, _, ⟨T61, L61, k61, n61⟩, -, X61, ⟨Lc61, hQ61, l61, y61, z61⟩, st61⟩ := X60.virtualBack hx (y := (⟨"com/example/indenture/indenture/status/RevenuePlanStatus", "isSetByHand", "()Z"⟩ : MethodName)) (z := (⟨"com/example/indenture/indenture/status/RevenuePlanStatus", "isSetByHand", "()Z"⟩ : MethodName)) hown (mvT hZ (hw _ (List.mem_of_getElem? (i := 4) rfl))) (mvT hZ (hw _ (List.mem_of_getElem? (i := 5) rfl))) (notFace_of_selects (args := #[]) (mvT hZ (hw _ (List.mem_of_getElem? (i := 7) rfl)))) (mvT hZ (hw _ (List.mem_of_getElem? (i := 7) rfl))) (mvT hZ (hw _ (List.mem_of_getElem? (i := 6) rfl))) (by decide) (backOf (W := 0) (rm1 l Z a0 hw [] w_CANCELLED w_PENDING w_READY w_CANCELLED h0 n0 Z0 (S_PENDING.ext O0.2) (S_READY.ext O0.2) (S_CANCELLED.ext O0.2)) hZ (hw _ (List.mem_of_getElem? (i := 8) rfl)) (hw _ (List.mem_of_getElem? (i := 2) rfl)) (by decide) (by decide)) q61a q61c (g := (mkF m 69 #[.val (.int p1), .val (.int ((p1 &&& (2147483647 : Int32)) % (5 : Int32))), .val (.ref w_CANCELLED), .val (.int (1 : Int32)), .unset, .unset] [(.ref w_CANCELLED)])) rfl (by rw [hml]; rfl) (Steps.refl _) (argsL := []) (rest := []) (lenOf pd_34 rfl) rfl (by show 2 * 0 + _ ≤ _; exact Nat.le_of_eq rfl) (hb hby at_69) (fun _ _ => ⟨rfl, e60, (by decide : 0 + 0 ≤ _), (by decide : 0 + 0 ≤ _)⟩)
          dsimp only [Pt.U, Pt.locs, Pt.cells, Pt.slots] at X61 l61 y61 z61 st61 hQ61
          subst l61 y61 z61
          obtain ⟨rfl, N61q, e61⟩ := hQ61
          have N62 := Fr.app N0 N61q
          obtain ⟨T63, X63, e63, st63⟩ := getS2 X61 hx hZ hown (host := "") (Or.inl (hw _ (List.mem_of_getElem? (i := 1) rfl))) Via.refl e61 (S_PENDING.ext O0.2) (g := (mkF m 75 #[.val (.int p1), .val (.int ((p1 &&& (2147483647 : Int32)) % (5 : Int32))), .val (.ref w_CANCELLED), .val (.int (1 : Int32)), .val (.int (f1 w_CANCELLED w_PENDING w_READY w_CANCELLED)), .unset] [(.ref w_CANCELLED)])) rfl (hb hby at_75)
          obtain ⟨T64, X64, e64, st64⟩ := getS2 X63 hx hZ hown (host := "") (Or.inl (hw _ (List.mem_of_getElem? (i := 1) rfl))) Via.refl e63 (S_PENDING.ext O0.2) (g := (mkF m 81 #[.val (.int p1), .val (.int ((p1 &&& (2147483647 : Int32)) % (5 : Int32))), .val (.ref w_CANCELLED), .val (.int (1 : Int32)), .val (.int (f1 w_CANCELLED w_PENDING w_READY w_CANCELLED)), .unset] [])) rfl (hb hby at_81)
          -- pc 85: RevenuePlanStatus.canMoveTo by rm2
          obtain ⟨cq65, kq65, q65a, q65b, q65c⟩ := isOf hZ e64 (E_w_PENDING.ext O0.2)
          obtain ⟨_, _, ⟨T65, L65, k65, n65⟩, -, X65, ⟨Lc65, hQ65, l65, y65, z65⟩, st65⟩ := X64.virtualBack hx (y := (⟨"com/example/indenture/indenture/status/RevenuePlanStatus", "canMoveTo", "(Lcom/example/indenture/indenture/status/RevenuePlanStatus;)Z"⟩ : MethodName)) (z := (⟨"com/example/indenture/indenture/status/RevenuePlanStatus", "canMoveTo", "(Lcom/example/indenture/indenture/status/RevenuePlanStatus;)Z"⟩ : MethodName)) hown (mvT hZ (hw _ (List.mem_of_getElem? (i := 16) rfl))) (mvT hZ (hw _ (List.mem_of_getElem? (i := 17) rfl))) (notFace_of_selects (args := #[]) (mvT hZ (hw _ (List.mem_of_getElem? (i := 19) rfl)))) (mvT hZ (hw _ (List.mem_of_getElem? (i := 19) rfl))) (mvT hZ (hw _ (List.mem_of_getElem? (i := 18) rfl))) (by decide) (backOf (W := 0) (rm2 l Z a0 hw [] w_PENDING w_CANCELLED w_READY w_CANCELLED h0 n0 Z0 (E_w_PENDING.ext O0.2) (F_ordinal_w_PENDING.ext O0.2) (S_READY.ext O0.2) (S_CANCELLED.ext O0.2)) hZ (hw _ (List.mem_of_getElem? (i := 20) rfl)) (hw _ (List.mem_of_getElem? (i := 2) rfl)) (by decide) (by decide)) q65a q65c (g := (mkF m 85 #[.val (.int p1), .val (.int ((p1 &&& (2147483647 : Int32)) % (5 : Int32))), .val (.ref w_CANCELLED), .val (.int (1 : Int32)), .val (.int (f1 w_CANCELLED w_PENDING w_READY w_CANCELLED)), .unset] [(.ref w_CANCELLED), (.ref w_PENDING)])) rfl (by rw [hml]; rfl) (Steps.refl _) (argsL := [(.ref w_CANCELLED)]) (rest := []) (lenOf pd_35 rfl) rfl (by show 2 * 0 + _ ≤ _; exact Nat.le_of_eq rfl) (hb hby at_85) (fun _ _ => ⟨rfl, e64, (by decide : 0 + 0 ≤ _), (by decide : 0 + 0 ≤ _)⟩)
          dsimp only [Pt.U, Pt.locs, Pt.cells, Pt.slots] at X65 l65 y65 z65 st65 hQ65
          subst l65 y65 z65
          obtain ⟨rfl, N65q, e65⟩ := hQ65
          have N66 := Fr.app N62 N65q
          have pre67 : ∀ t, Steps p.tables e below (T65.setTop (mkF m 88 #[.val (.int p1), .val (.int ((p1 &&& (2147483647 : Int32)) % (5 : Int32))), .val (.ref w_CANCELLED), .val (.int (1 : Int32)), .val (.int (f1 w_CANCELLED w_PENDING w_READY w_CANCELLED)), .unset] [(.int (f2 w_CANCELLED w_READY w_CANCELLED))])) t → Steps p.tables e below (s₁.setTop (entryFrame m #[(.int p1)] maxLocals)) t := fun t k => pre43 t (by
            show Steps p.tables e below (s₁.setTop (mkF m 50 #[.val (.int p1), .val (.int ((p1 &&& (2147483647 : Int32)) % (5 : Int32))), .unset, .unset, .unset, .unset] [(.int (3 : Int32)), (.int ((p1 &&& (2147483647 : Int32)) % (5 : Int32)))])) _
            refine XS.icmpYes X0.here hx rfl (pc0 := 50) (pc' := 62) rfl (hb hby at_50) rfl (feq hc44).2 (by decide) (by decide) ?_
            show Steps p.tables e below (s₁.setTop (mkF m 62 #[.val (.int p1), .val (.int ((p1 &&& (2147483647 : Int32)) % (5 : Int32))), .unset, .unset, .unset, .unset] [])) _
            refine st60 _ ?_
            show Steps p.tables e below (T60.setTop (mkF m 65 #[.val (.int p1), .val (.int ((p1 &&& (2147483647 : Int32)) % (5 : Int32))), .unset, .unset, .unset, .unset] [(.ref w_CANCELLED)])) _
            refine XS.astoreN X60.here hx rfl (hb hby at_65) rfl rfl (l' := #[.val (.int p1), .val (.int ((p1 &&& (2147483647 : Int32)) % (5 : Int32))), .val (.ref w_CANCELLED), .unset, .unset, .unset]) rfl ?_
            show Steps p.tables e below (T60.setTop (mkF m 66 #[.val (.int p1), .val (.int ((p1 &&& (2147483647 : Int32)) % (5 : Int32))), .val (.ref w_CANCELLED), .unset, .unset, .unset] [])) _
            refine XS.iconst X60.here hx rfl (hb hby at_66) ?_
            show Steps p.tables e below (T60.setTop (mkF m 67 #[.val (.int p1), .val (.int ((p1 &&& (2147483647 : Int32)) % (5 : Int32))), .val (.ref w_CANCELLED), .unset, .unset, .unset] [(.int (1 : Int32))])) _
            refine XS.istoreN X60.here hx rfl (hb hby at_67) rfl (l' := #[.val (.int p1), .val (.int ((p1 &&& (2147483647 : Int32)) % (5 : Int32))), .val (.ref w_CANCELLED), .val (.int (1 : Int32)), .unset, .unset]) rfl ?_
            show Steps p.tables e below (T60.setTop (mkF m 68 #[.val (.int p1), .val (.int ((p1 &&& (2147483647 : Int32)) % (5 : Int32))), .val (.ref w_CANCELLED), .val (.int (1 : Int32)), .unset, .unset] [])) _
            refine XS.aloadN X60.here hx rfl (hb hby at_68) rfl rfl ?_
            show Steps p.tables e below (T60.setTop (mkF m 69 #[.val (.int p1), .val (.int ((p1 &&& (2147483647 : Int32)) % (5 : Int32))), .val (.ref w_CANCELLED), .val (.int (1 : Int32)), .unset, .unset] [(.ref w_CANCELLED)])) _
            refine st61.trans ?_
            show Steps p.tables e below (T61.setTop (mkF m 72 #[.val (.int p1), .val (.int ((p1 &&& (2147483647 : Int32)) % (5 : Int32))), .val (.ref w_CANCELLED), .val (.int (1 : Int32)), .unset, .unset] [(.int (f1 w_CANCELLED w_PENDING w_READY w_CANCELLED))])) _
            refine XS.istore X61.here hx rfl (hb hby at_72) rfl (l' := #[.val (.int p1), .val (.int ((p1 &&& (2147483647 : Int32)) % (5 : Int32))), .val (.ref w_CANCELLED), .val (.int (1 : Int32)), .val (.int (f1 w_CANCELLED w_PENDING w_READY w_CANCELLED)), .unset]) rfl ?_
            show Steps p.tables e below (T61.setTop (mkF m 74 #[.val (.int p1), .val (.int ((p1 &&& (2147483647 : Int32)) % (5 : Int32))), .val (.ref w_CANCELLED), .val (.int (1 : Int32)), .val (.int (f1 w_CANCELLED w_PENDING w_READY w_CANCELLED)), .unset] [])) _
            refine XS.aloadN X61.here hx rfl (hb hby at_74) rfl rfl ?_
            show Steps p.tables e below (T61.setTop (mkF m 75 #[.val (.int p1), .val (.int ((p1 &&& (2147483647 : Int32)) % (5 : Int32))), .val (.ref w_CANCELLED), .val (.int (1 : Int32)), .val (.int (f1 w_CANCELLED w_PENDING w_READY w_CANCELLED)), .unset] [(.ref w_CANCELLED)])) _
            refine st63 _ ?_
            show Steps p.tables e below (T63.setTop (mkF m 78 #[.val (.int p1), .val (.int ((p1 &&& (2147483647 : Int32)) % (5 : Int32))), .val (.ref w_CANCELLED), .val (.int (1 : Int32)), .val (.int (f1 w_CANCELLED w_PENDING w_READY w_CANCELLED)), .unset] [(.ref w_PENDING), (.ref w_CANCELLED)])) _
            refine Jvm.RoadKit.acmp (g := (mkF m 78 #[.val (.int p1), .val (.int ((p1 &&& (2147483647 : Int32)) % (5 : Int32))), .val (.ref w_CANCELLED), .val (.int (1 : Int32)), .val (.int (f1 w_CANCELLED w_PENDING w_READY w_CANCELLED)), .unset] [(.ref w_PENDING), (.ref w_CANCELLED)])) X63 hx rfl rfl rfl (pc0 := 78) (pc' := 81) (same := false) rfl (hb hby at_78) rfl (decide_eq_false fun q => ne_w_CANCELLED_w_PENDING (Value.ref.inj q)) (by decide) (by decide) ?_
            show Steps p.tables e below (T63.setTop (mkF m 81 #[.val (.int p1), .val (.int ((p1 &&& (2147483647 : Int32)) % (5 : Int32))), .val (.ref w_CANCELLED), .val (.int (1 : Int32)), .val (.int (f1 w_CANCELLED w_PENDING w_READY w_CANCELLED)), .unset] [])) _
            refine st64 _ ?_
            show Steps p.tables e below (T64.setTop (mkF m 84 #[.val (.int p1), .val (.int ((p1 &&& (2147483647 : Int32)) % (5 : Int32))), .val (.ref w_CANCELLED), .val (.int (1 : Int32)), .val (.int (f1 w_CANCELLED w_PENDING w_READY w_CANCELLED)), .unset] [(.ref w_PENDING)])) _
            refine XS.aloadN X64.here hx rfl (hb hby at_84) rfl rfl ?_
            show Steps p.tables e below (T64.setTop (mkF m 85 #[.val (.int p1), .val (.int ((p1 &&& (2147483647 : Int32)) % (5 : Int32))), .val (.ref w_CANCELLED), .val (.int (1 : Int32)), .val (.int (f1 w_CANCELLED w_PENDING w_READY w_CANCELLED)), .unset] [(.ref w_CANCELLED), (.ref w_PENDING)])) _
            refine st65.trans ?_
            exact k)
          by_cases hc68 : (f2 w_CANCELLED w_READY w_CANCELLED) = (0 : Int32)
          ·  -- pc 88: (f2 w_CANCELLED w_READY w_CANCELLED) = (0 : Int32)
            have pre69 : ∀ t, Steps p.tables e below (T65.setTop (mkF m 101 #[.val (.int p1), .val (.int ((p1 &&& (2147483647 : Int32)) % (5 : Int32))), .val (.ref w_CANCELLED), .val (.int (1 : Int32)), .val (.int (f1 w_CANCELLED w_PENDING w_READY w_CANCELLED)), .val (.int (0 : Int32))] [(.int (1 : Int32)), (.int (f1 w_CANCELLED w_PENDING w_READY w_CANCELLED))])) t → Steps p.tables e below (s₁.setTop (entryFrame m #[(.int p1)] maxLocals)) t := fun t k => pre67 t (by
              show Steps p.tables e below (T65.setTop (mkF m 88 #[.val (.int p1), .val (.int ((p1 &&& (2147483647 : Int32)) % (5 : Int32))), .val (.ref w_CANCELLED), .val (.int (1 : Int32)), .val (.int (f1 w_CANCELLED w_PENDING w_READY w_CANCELLED)), .unset] [(.int (f2 w_CANCELLED w_READY w_CANCELLED))])) _
              refine XS.ifYes X65.here hx rfl (pc0 := 88) (pc' := 95) rfl (hb hby at_88) rfl ((if0 _ _).trans (teq hc68).1) (by decide) (by decide) ?_
              show Steps p.tables e below (T65.setTop (mkF m 95 #[.val (.int p1), .val (.int ((p1 &&& (2147483647 : Int32)) % (5 : Int32))), .val (.ref w_CANCELLED), .val (.int (1 : Int32)), .val (.int (f1 w_CANCELLED w_PENDING w_READY w_CANCELLED)), .unset] [])) _
              refine XS.iconst X65.here hx rfl (hb hby at_95) ?_
              show Steps p.tables e below (T65.setTop (mkF m 96 #[.val (.int p1), .val (.int ((p1 &&& (2147483647 : Int32)) % (5 : Int32))), .val (.ref w_CANCELLED), .val (.int (1 : Int32)), .val (.int (f1 w_CANCELLED w_PENDING w_READY w_CANCELLED)), .unset] [(.int (0 : Int32))])) _
              refine XS.istore X65.here hx rfl (hb hby at_96) rfl (l' := #[.val (.int p1), .val (.int ((p1 &&& (2147483647 : Int32)) % (5 : Int32))), .val (.ref w_CANCELLED), .val (.int (1 : Int32)), .val (.int (f1 w_CANCELLED w_PENDING w_READY w_CANCELLED)), .val (.int (0 : Int32))]) rfl ?_
              show Steps p.tables e below (T65.setTop (mkF m 98 #[.val (.int p1), .val (.int ((p1 &&& (2147483647 : Int32)) % (5 : Int32))), .val (.ref w_CANCELLED), .val (.int (1 : Int32)), .val (.int (f1 w_CANCELLED w_PENDING w_READY w_CANCELLED)), .val (.int (0 : Int32))] [])) _
              refine XS.iload X65.here hx rfl (hb hby at_98) rfl ?_
              show Steps p.tables e below (T65.setTop (mkF m 100 #[.val (.int p1), .val (.int ((p1 &&& (2147483647 : Int32)) % (5 : Int32))), .val (.ref w_CANCELLED), .val (.int (1 : Int32)), .val (.int (f1 w_CANCELLED w_PENDING w_READY w_CANCELLED)), .val (.int (0 : Int32))] [(.int (f1 w_CANCELLED w_PENDING w_READY w_CANCELLED))])) _
              refine XS.iloadN X65.here hx rfl (hb hby at_100) rfl ?_
              exact k)
            by_cases hc70 : (f1 w_CANCELLED w_PENDING w_READY w_CANCELLED) = (1 : Int32)
            ·  -- pc 101: (f1 w_CANCELLED w_PENDING w_READY w_CANCELLED) = (1 : Int32)
              have pre71 : ∀ t, Steps p.tables e below (T65.setTop (mkF m 108 #[.val (.int p1), .val (.int ((p1 &&& (2147483647 : Int32)) % (5 : Int32))), .val (.ref w_CANCELLED), .val (.int (1 : Int32)), .val (.int (f1 w_CANCELLED w_PENDING w_READY w_CANCELLED)), .val (.int (0 : Int32))] [(.int (0 : Int32)), (.int (f1 w_CANCELLED w_PENDING w_READY w_CANCELLED))])) t → Steps p.tables e below (s₁.setTop (entryFrame m #[(.int p1)] maxLocals)) t := fun t k => pre69 t (by
                show Steps p.tables e below (T65.setTop (mkF m 101 #[.val (.int p1), .val (.int ((p1 &&& (2147483647 : Int32)) % (5 : Int32))), .val (.ref w_CANCELLED), .val (.int (1 : Int32)), .val (.int (f1 w_CANCELLED w_PENDING w_READY w_CANCELLED)), .val (.int (0 : Int32))] [(.int (1 : Int32)), (.int (f1 w_CANCELLED w_PENDING w_READY w_CANCELLED))])) _
                refine XS.icmpNo X65.here hx rfl (hb hby at_101) rfl (teq hc70).2 ?_
                show Steps p.tables e below (T65.setTop (mkF m 104 #[.val (.int p1), .val (.int ((p1 &&& (2147483647 : Int32)) % (5 : Int32))), .val (.ref w_CANCELLED), .val (.int (1 : Int32)), .val (.int (f1 w_CANCELLED w_PENDING w_READY w_CANCELLED)), .val (.int (0 : Int32))] [])) _
                refine XS.iload X65.here hx rfl (hb hby at_104) rfl ?_
                show Steps p.tables e below (T65.setTop (mkF m 106 #[.val (.int p1), .val (.int ((p1 &&& (2147483647 : Int32)) % (5 : Int32))), .val (.ref w_CANCELLED), .val (.int (1 : Int32)), .val (.int (f1 w_CANCELLED w_PENDING w_READY w_CANCELLED)), .val (.int (0 : Int32))] [(.int (f1 w_CANCELLED w_PENDING w_READY w_CANCELLED))])) _
                refine XS.iload X65.here hx rfl (hb hby at_106) rfl ?_
                exact k)
              by_cases hc72 : (f1 w_CANCELLED w_PENDING w_READY w_CANCELLED) = (0 : Int32)
              ·  -- pc 108: (f1 w_CANCELLED w_PENDING w_READY w_CANCELLED) = (0 : Int32)
                obtain ⟨fs, hr, hrun, hended, hW, hsame⟩ := X65.leave (v := some (.int (1 : Int32))) (fun h => by rw [Bd.returns] at h; cases h) Bd.notSynchronized
                refine ⟨_, _, pre71 _ ?_, hrun, hended, _, _, rfl, ?_, ⟨_, rfl⟩, hW, hsame.mono (by decide) (by decide)⟩
                · show Steps p.tables e below (T65.setTop (mkF m 108 #[.val (.int p1), .val (.int ((p1 &&& (2147483647 : Int32)) % (5 : Int32))), .val (.ref w_CANCELLED), .val (.int (1 : Int32)), .val (.int (f1 w_CANCELLED w_PENDING w_READY w_CANCELLED)), .val (.int (0 : Int32))] [(.int (0 : Int32)), (.int (f1 w_CANCELLED w_PENDING w_READY w_CANCELLED))])) _
                  refine XS.icmpNo X65.here hx rfl (hb hby at_108) rfl (teq hc72).2 ?_
                  show Steps p.tables e below (T65.setTop (mkF m 111 #[.val (.int p1), .val (.int ((p1 &&& (2147483647 : Int32)) % (5 : Int32))), .val (.ref w_CANCELLED), .val (.int (1 : Int32)), .val (.int (f1 w_CANCELLED w_PENDING w_READY w_CANCELLED)), .val (.int (0 : Int32))] [])) _
                  refine XS.iconst X65.here hx rfl (hb hby at_111) ?_
                  show Steps p.tables e below (T65.setTop (mkF m 112 #[.val (.int p1), .val (.int ((p1 &&& (2147483647 : Int32)) % (5 : Int32))), .val (.ref w_CANCELLED), .val (.int (1 : Int32)), .val (.int (f1 w_CANCELLED w_PENDING w_READY w_CANCELLED)), .val (.int (0 : Int32))] [(.int (1 : Int32))])) _
                  refine XS.goto X65.here hx rfl (pc0 := 112) (pc' := 116) rfl (hb hby at_112) (by decide) (by decide) ?_
                  show Steps p.tables e below (T65.setTop (mkF m 116 #[.val (.int p1), .val (.int ((p1 &&& (2147483647 : Int32)) % (5 : Int32))), .val (.ref w_CANCELLED), .val (.int (1 : Int32)), .val (.int (f1 w_CANCELLED w_PENDING w_READY w_CANCELLED)), .val (.int (0 : Int32))] [(.int (1 : Int32))])) _
                  exact retN X65 hx (t := .boolean) Bd.returns (by simp) (hb hby at_116) hr
                · show Q0 Z p1 w_PENDING w_COMPLETED w_READY w_CANCELLED w_IN_PROGRESS h0 n0 _ T65.heap _
                  rw [e65]
                  exact ⟨(by unfold f0; rw [if_neg hc2, if_neg hc10, if_neg hc27, if_neg hc44, if_pos hc68, if_pos hc70, if_pos hc72]), N66⟩
              ·  -- pc 108: not (f1 w_CANCELLED w_PENDING w_READY w_CANCELLED) = (0 : Int32)
                obtain ⟨fs, hr, hrun, hended, hW, hsame⟩ := X65.leave (v := some (.int (0 : Int32))) (fun h => by rw [Bd.returns] at h; cases h) Bd.notSynchronized
                refine ⟨_, _, pre71 _ ?_, hrun, hended, _, _, rfl, ?_, ⟨_, rfl⟩, hW, hsame.mono (by decide) (by decide)⟩
                · show Steps p.tables e below (T65.setTop (mkF m 108 #[.val (.int p1), .val (.int ((p1 &&& (2147483647 : Int32)) % (5 : Int32))), .val (.ref w_CANCELLED), .val (.int (1 : Int32)), .val (.int (f1 w_CANCELLED w_PENDING w_READY w_CANCELLED)), .val (.int (0 : Int32))] [(.int (0 : Int32)), (.int (f1 w_CANCELLED w_PENDING w_READY w_CANCELLED))])) _
                  refine XS.icmpYes X65.here hx rfl (pc0 := 108) (pc' := 115) rfl (hb hby at_108) rfl (feq hc72).2 (by decide) (by decide) ?_
                  show Steps p.tables e below (T65.setTop (mkF m 115 #[.val (.int p1), .val (.int ((p1 &&& (2147483647 : Int32)) % (5 : Int32))), .val (.ref w_CANCELLED), .val (.int (1 : Int32)), .val (.int (f1 w_CANCELLED w_PENDING w_READY w_CANCELLED)), .val (.int (0 : Int32))] [])) _
                  refine XS.iconst X65.here hx rfl (hb hby at_115) ?_
                  show Steps p.tables e below (T65.setTop (mkF m 116 #[.val (.int p1), .val (.int ((p1 &&& (2147483647 : Int32)) % (5 : Int32))), .val (.ref w_CANCELLED), .val (.int (1 : Int32)), .val (.int (f1 w_CANCELLED w_PENDING w_READY w_CANCELLED)), .val (.int (0 : Int32))] [(.int (0 : Int32))])) _
                  exact retN X65 hx (t := .boolean) Bd.returns (by simp) (hb hby at_116) hr
                · show Q0 Z p1 w_PENDING w_COMPLETED w_READY w_CANCELLED w_IN_PROGRESS h0 n0 _ T65.heap _
                  rw [e65]
                  exact ⟨(by unfold f0; rw [if_neg hc2, if_neg hc10, if_neg hc27, if_neg hc44, if_pos hc68, if_pos hc70, if_neg hc72]), N66⟩
            ·  -- pc 101: not (f1 w_CANCELLED w_PENDING w_READY w_CANCELLED) = (1 : Int32)
              obtain ⟨fs, hr, hrun, hended, hW, hsame⟩ := X65.leave (v := some (.int (0 : Int32))) (fun h => by rw [Bd.returns] at h; cases h) Bd.notSynchronized
              refine ⟨_, _, pre69 _ ?_, hrun, hended, _, _, rfl, ?_, ⟨_, rfl⟩, hW, hsame.mono (by decide) (by decide)⟩
              · show Steps p.tables e below (T65.setTop (mkF m 101 #[.val (.int p1), .val (.int ((p1 &&& (2147483647 : Int32)) % (5 : Int32))), .val (.ref w_CANCELLED), .val (.int (1 : Int32)), .val (.int (f1 w_CANCELLED w_PENDING w_READY w_CANCELLED)), .val (.int (0 : Int32))] [(.int (1 : Int32)), (.int (f1 w_CANCELLED w_PENDING w_READY w_CANCELLED))])) _
                refine XS.icmpYes X65.here hx rfl (pc0 := 101) (pc' := 115) rfl (hb hby at_101) rfl (feq hc70).2 (by decide) (by decide) ?_
                show Steps p.tables e below (T65.setTop (mkF m 115 #[.val (.int p1), .val (.int ((p1 &&& (2147483647 : Int32)) % (5 : Int32))), .val (.ref w_CANCELLED), .val (.int (1 : Int32)), .val (.int (f1 w_CANCELLED w_PENDING w_READY w_CANCELLED)), .val (.int (0 : Int32))] [])) _
                refine XS.iconst X65.here hx rfl (hb hby at_115) ?_
                show Steps p.tables e below (T65.setTop (mkF m 116 #[.val (.int p1), .val (.int ((p1 &&& (2147483647 : Int32)) % (5 : Int32))), .val (.ref w_CANCELLED), .val (.int (1 : Int32)), .val (.int (f1 w_CANCELLED w_PENDING w_READY w_CANCELLED)), .val (.int (0 : Int32))] [(.int (0 : Int32))])) _
                exact retN X65 hx (t := .boolean) Bd.returns (by simp) (hb hby at_116) hr
              · show Q0 Z p1 w_PENDING w_COMPLETED w_READY w_CANCELLED w_IN_PROGRESS h0 n0 _ T65.heap _
                rw [e65]
                exact ⟨(by unfold f0; rw [if_neg hc2, if_neg hc10, if_neg hc27, if_neg hc44, if_pos hc68, if_neg hc70]), N66⟩
          ·  -- pc 88: not (f2 w_CANCELLED w_READY w_CANCELLED) = (0 : Int32)
            have pre73 : ∀ t, Steps p.tables e below (T65.setTop (mkF m 101 #[.val (.int p1), .val (.int ((p1 &&& (2147483647 : Int32)) % (5 : Int32))), .val (.ref w_CANCELLED), .val (.int (1 : Int32)), .val (.int (f1 w_CANCELLED w_PENDING w_READY w_CANCELLED)), .val (.int (1 : Int32))] [(.int (1 : Int32)), (.int (f1 w_CANCELLED w_PENDING w_READY w_CANCELLED))])) t → Steps p.tables e below (s₁.setTop (entryFrame m #[(.int p1)] maxLocals)) t := fun t k => pre67 t (by
              show Steps p.tables e below (T65.setTop (mkF m 88 #[.val (.int p1), .val (.int ((p1 &&& (2147483647 : Int32)) % (5 : Int32))), .val (.ref w_CANCELLED), .val (.int (1 : Int32)), .val (.int (f1 w_CANCELLED w_PENDING w_READY w_CANCELLED)), .unset] [(.int (f2 w_CANCELLED w_READY w_CANCELLED))])) _
              refine XS.ifNo X65.here hx rfl (hb hby at_88) rfl ((if0 _ _).trans (feq hc68).1) ?_
              show Steps p.tables e below (T65.setTop (mkF m 91 #[.val (.int p1), .val (.int ((p1 &&& (2147483647 : Int32)) % (5 : Int32))), .val (.ref w_CANCELLED), .val (.int (1 : Int32)), .val (.int (f1 w_CANCELLED w_PENDING w_READY w_CANCELLED)), .unset] [])) _
              refine XS.iconst X65.here hx rfl (hb hby at_91) ?_
              show Steps p.tables e below (T65.setTop (mkF m 92 #[.val (.int p1), .val (.int ((p1 &&& (2147483647 : Int32)) % (5 : Int32))), .val (.ref w_CANCELLED), .val (.int (1 : Int32)), .val (.int (f1 w_CANCELLED w_PENDING w_READY w_CANCELLED)), .unset] [(.int (1 : Int32))])) _
              refine XS.goto X65.here hx rfl (pc0 := 92) (pc' := 96) rfl (hb hby at_92) (by decide) (by decide) ?_
              show Steps p.tables e below (T65.setTop (mkF m 96 #[.val (.int p1), .val (.int ((p1 &&& (2147483647 : Int32)) % (5 : Int32))), .val (.ref w_CANCELLED), .val (.int (1 : Int32)), .val (.int (f1 w_CANCELLED w_PENDING w_READY w_CANCELLED)), .unset] [(.int (1 : Int32))])) _
              refine XS.istore X65.here hx rfl (hb hby at_96) rfl (l' := #[.val (.int p1), .val (.int ((p1 &&& (2147483647 : Int32)) % (5 : Int32))), .val (.ref w_CANCELLED), .val (.int (1 : Int32)), .val (.int (f1 w_CANCELLED w_PENDING w_READY w_CANCELLED)), .val (.int (1 : Int32))]) rfl ?_
              show Steps p.tables e below (T65.setTop (mkF m 98 #[.val (.int p1), .val (.int ((p1 &&& (2147483647 : Int32)) % (5 : Int32))), .val (.ref w_CANCELLED), .val (.int (1 : Int32)), .val (.int (f1 w_CANCELLED w_PENDING w_READY w_CANCELLED)), .val (.int (1 : Int32))] [])) _
              refine XS.iload X65.here hx rfl (hb hby at_98) rfl ?_
              show Steps p.tables e below (T65.setTop (mkF m 100 #[.val (.int p1), .val (.int ((p1 &&& (2147483647 : Int32)) % (5 : Int32))), .val (.ref w_CANCELLED), .val (.int (1 : Int32)), .val (.int (f1 w_CANCELLED w_PENDING w_READY w_CANCELLED)), .val (.int (1 : Int32))] [(.int (f1 w_CANCELLED w_PENDING w_READY w_CANCELLED))])) _
              refine XS.iloadN X65.here hx rfl (hb hby at_100) rfl ?_
              exact k)
            by_cases hc74 : (f1 w_CANCELLED w_PENDING w_READY w_CANCELLED) = (1 : Int32)
            ·  -- pc 101: (f1 w_CANCELLED w_PENDING w_READY w_CANCELLED) = (1 : Int32)
              obtain ⟨fs, hr, hrun, hended, hW, hsame⟩ := X65.leave (v := some (.int (1 : Int32))) (fun h => by rw [Bd.returns] at h; cases h) Bd.notSynchronized
              refine ⟨_, _, pre73 _ ?_, hrun, hended, _, _, rfl, ?_, ⟨_, rfl⟩, hW, hsame.mono (by decide) (by decide)⟩
              · show Steps p.tables e below (T65.setTop (mkF m 101 #[.val (.int p1), .val (.int ((p1 &&& (2147483647 : Int32)) % (5 : Int32))), .val (.ref w_CANCELLED), .val (.int (1 : Int32)), .val (.int (f1 w_CANCELLED w_PENDING w_READY w_CANCELLED)), .val (.int (1 : Int32))] [(.int (1 : Int32)), (.int (f1 w_CANCELLED w_PENDING w_READY w_CANCELLED))])) _
                refine XS.icmpNo X65.here hx rfl (hb hby at_101) rfl (teq hc74).2 ?_
                show Steps p.tables e below (T65.setTop (mkF m 104 #[.val (.int p1), .val (.int ((p1 &&& (2147483647 : Int32)) % (5 : Int32))), .val (.ref w_CANCELLED), .val (.int (1 : Int32)), .val (.int (f1 w_CANCELLED w_PENDING w_READY w_CANCELLED)), .val (.int (1 : Int32))] [])) _
                refine XS.iload X65.here hx rfl (hb hby at_104) rfl ?_
                show Steps p.tables e below (T65.setTop (mkF m 106 #[.val (.int p1), .val (.int ((p1 &&& (2147483647 : Int32)) % (5 : Int32))), .val (.ref w_CANCELLED), .val (.int (1 : Int32)), .val (.int (f1 w_CANCELLED w_PENDING w_READY w_CANCELLED)), .val (.int (1 : Int32))] [(.int (f1 w_CANCELLED w_PENDING w_READY w_CANCELLED))])) _
                refine XS.iload X65.here hx rfl (hb hby at_106) rfl ?_
                show Steps p.tables e below (T65.setTop (mkF m 108 #[.val (.int p1), .val (.int ((p1 &&& (2147483647 : Int32)) % (5 : Int32))), .val (.ref w_CANCELLED), .val (.int (1 : Int32)), .val (.int (f1 w_CANCELLED w_PENDING w_READY w_CANCELLED)), .val (.int (1 : Int32))] [(.int (1 : Int32)), (.int (f1 w_CANCELLED w_PENDING w_READY w_CANCELLED))])) _
                refine XS.icmpNo X65.here hx rfl (hb hby at_108) rfl (teq hc74).2 ?_
                show Steps p.tables e below (T65.setTop (mkF m 111 #[.val (.int p1), .val (.int ((p1 &&& (2147483647 : Int32)) % (5 : Int32))), .val (.ref w_CANCELLED), .val (.int (1 : Int32)), .val (.int (f1 w_CANCELLED w_PENDING w_READY w_CANCELLED)), .val (.int (1 : Int32))] [])) _
                refine XS.iconst X65.here hx rfl (hb hby at_111) ?_
                show Steps p.tables e below (T65.setTop (mkF m 112 #[.val (.int p1), .val (.int ((p1 &&& (2147483647 : Int32)) % (5 : Int32))), .val (.ref w_CANCELLED), .val (.int (1 : Int32)), .val (.int (f1 w_CANCELLED w_PENDING w_READY w_CANCELLED)), .val (.int (1 : Int32))] [(.int (1 : Int32))])) _
                refine XS.goto X65.here hx rfl (pc0 := 112) (pc' := 116) rfl (hb hby at_112) (by decide) (by decide) ?_
                show Steps p.tables e below (T65.setTop (mkF m 116 #[.val (.int p1), .val (.int ((p1 &&& (2147483647 : Int32)) % (5 : Int32))), .val (.ref w_CANCELLED), .val (.int (1 : Int32)), .val (.int (f1 w_CANCELLED w_PENDING w_READY w_CANCELLED)), .val (.int (1 : Int32))] [(.int (1 : Int32))])) _
                exact retN X65 hx (t := .boolean) Bd.returns (by simp) (hb hby at_116) hr
              · show Q0 Z p1 w_PENDING w_COMPLETED w_READY w_CANCELLED w_IN_PROGRESS h0 n0 _ T65.heap _
                rw [e65]
                exact ⟨(by unfold f0; rw [if_neg hc2, if_neg hc10, if_neg hc27, if_neg hc44, if_neg hc68, if_pos hc74]), N66⟩
            ·  -- pc 101: not (f1 w_CANCELLED w_PENDING w_READY w_CANCELLED) = (1 : Int32)
              obtain ⟨fs, hr, hrun, hended, hW, hsame⟩ := X65.leave (v := some (.int (0 : Int32))) (fun h => by rw [Bd.returns] at h; cases h) Bd.notSynchronized
              refine ⟨_, _, pre73 _ ?_, hrun, hended, _, _, rfl, ?_, ⟨_, rfl⟩, hW, hsame.mono (by decide) (by decide)⟩
              · show Steps p.tables e below (T65.setTop (mkF m 101 #[.val (.int p1), .val (.int ((p1 &&& (2147483647 : Int32)) % (5 : Int32))), .val (.ref w_CANCELLED), .val (.int (1 : Int32)), .val (.int (f1 w_CANCELLED w_PENDING w_READY w_CANCELLED)), .val (.int (1 : Int32))] [(.int (1 : Int32)), (.int (f1 w_CANCELLED w_PENDING w_READY w_CANCELLED))])) _
                refine XS.icmpYes X65.here hx rfl (pc0 := 101) (pc' := 115) rfl (hb hby at_101) rfl (feq hc74).2 (by decide) (by decide) ?_
                show Steps p.tables e below (T65.setTop (mkF m 115 #[.val (.int p1), .val (.int ((p1 &&& (2147483647 : Int32)) % (5 : Int32))), .val (.ref w_CANCELLED), .val (.int (1 : Int32)), .val (.int (f1 w_CANCELLED w_PENDING w_READY w_CANCELLED)), .val (.int (1 : Int32))] [])) _
                refine XS.iconst X65.here hx rfl (hb hby at_115) ?_
                show Steps p.tables e below (T65.setTop (mkF m 116 #[.val (.int p1), .val (.int ((p1 &&& (2147483647 : Int32)) % (5 : Int32))), .val (.ref w_CANCELLED), .val (.int (1 : Int32)), .val (.int (f1 w_CANCELLED w_PENDING w_READY w_CANCELLED)), .val (.int (1 : Int32))] [(.int (0 : Int32))])) _
                exact retN X65 hx (t := .boolean) Bd.returns (by simp) (hb hby at_116) hr
              · show Q0 Z p1 w_PENDING w_COMPLETED w_READY w_CANCELLED w_IN_PROGRESS h0 n0 _ T65.heap _
                rw [e65]
                exact ⟨(by unfold f0; rw [if_neg hc2, if_neg hc10, if_neg hc27, if_neg hc44, if_neg hc68, if_neg hc74]), N66⟩
theorem law_eq (p1 : Int32) (w_PENDING w_COMPLETED w_READY w_CANCELLED w_IN_PROGRESS : Addr) (n0 : w_READY ≠ w_PENDING) (n1 : w_IN_PROGRESS ≠ w_PENDING) (n2 : w_COMPLETED ≠ w_PENDING) (n3 : w_CANCELLED ≠ w_PENDING) (n4 : w_IN_PROGRESS ≠ w_READY) (n5 : w_COMPLETED ≠ w_READY) (n6 : w_CANCELLED ≠ w_READY) (n7 : w_IN_PROGRESS ≠ w_CANCELLED) (n8 : w_COMPLETED ≠ w_CANCELLED) : f0 p1 w_PENDING w_COMPLETED w_READY w_CANCELLED w_IN_PROGRESS = 1 := by
  unfold f0 f1 f2
  simp only [n0, Ne.symm n0, n1, Ne.symm n1, n2, Ne.symm n2, n3, Ne.symm n3, n4, Ne.symm n4, n5, Ne.symm n5, n6, Ne.symm n6, n7, Ne.symm n7, n8, Ne.symm n8, Ne.symm, if_true, if_false, if_pos rfl]
  repeat' split
  all_goals first | rfl | (exfalso; simp_all; done)
set_option maxRecDepth 65536 in
set_option maxHeartbeats 40000000 in
theorem comes_1 {Post : Tables → Env → Array Value → State → Outcome → State → Prop} (hpost : ∀ tb e args s v u, (limb_1_1.after args s (.returned v) u = true ∧ limb_1_2.after args s (.returned v) u = true ∧ True) → FrameEnd s (.returned v) u (Jvm.fieldLocs frame_1_writes args s ++ Jvm.arrayLocs frame_1_arrays args s ++ Jvm.staticLocs frame_1_statics s) 0 0 → Post tb e args s (.returned v) u) :
    ArmFor flags0 classFile x code maxLocals ret World_1 tables_1 room_1 Calls_1 rest_1 Pre_1 Post := by
  intro l hfl _ _ p e ha hc hk s m args below hf hA hF happ hP
  obtain ⟨hcalls, hrest, hpre⟩ := hP
  obtain ⟨-, -, -, hnamed, -, -, -, hat⟩ := (Spec.applies_iff hf).mp happ
  obtain ⟨hg, hn⟩ := and_e (Cond.before_iff.mp (show (Jvm.Cond.and given_1 narrow_1).before args s = true from hpre))
  obtain ⟨gv1, gv2⟩ := and_e hg
  obtain ⟨gv3, gv4⟩ := and_e hn
  obtain ⟨gv5, gv6⟩ := and_e gv4
  obtain ⟨gv7, gv8⟩ := and_e gv6
  obtain ⟨gv9, gv10⟩ := and_e gv8
  obtain ⟨gv11, gv12⟩ := and_e gv10
  obtain ⟨gv13, gv14⟩ := and_e gv12
  obtain ⟨gv15, gv16⟩ := and_e gv14
  obtain ⟨gv17, gv18⟩ := and_e gv16
  obtain ⟨gv19, gv20⟩ := and_e gv18
  obtain ⟨w0, rfl⟩ : ∃ w0 : Value, args = #[w0] := by
    have hs : args.size = 1 := by simpa [Cond.value, given_1] using gv1
    obtain ⟨L⟩ := args
    match L, hs with
    | [w0], _ => exact ⟨w0, rfl⟩
  have hw := fun d (hd : d ∈ tables_1) => atoms_spec (ws := Jvm.Cond.code x code maxLocals ret :: tables_1) hat d (List.mem_cons_of_mem _ hd)
  obtain ⟨i0, ei0⟩ := is_v gv2
  obtain rfl : w0 = (.int i0) := Option.some.inj ei0
  have O0 := Old.start s
  obtain ⟨w_PENDING, ev_PENDING⟩ := exa_v gv3
  have S_PENDING := Sta.start ev_PENDING (Or.inr ⟨(hw _ (List.mem_of_getElem? (i := 2) rfl)), (hw _ (List.mem_of_getElem? (i := 3) rfl))⟩)
  have E_w_PENDING := Exa.start ev_PENDING gv3
  obtain ⟨w_COMPLETED, ev_COMPLETED⟩ := exa_v gv5
  have S_COMPLETED := Sta.start ev_COMPLETED (Or.inr ⟨(hw _ (List.mem_of_getElem? (i := 2) rfl)), (hw _ (List.mem_of_getElem? (i := 11) rfl))⟩)
  have E_w_COMPLETED := Exa.start ev_COMPLETED gv5
  obtain ⟨w_READY, ev_READY⟩ := exa_v gv11
  have S_READY := Sta.start ev_READY (Or.inr ⟨(hw _ (List.mem_of_getElem? (i := 2) rfl)), (hw _ (List.mem_of_getElem? (i := 13) rfl))⟩)
  have E_w_READY := Exa.start ev_READY gv11
  obtain ⟨w_CANCELLED, ev_CANCELLED⟩ := exa_v gv15
  have S_CANCELLED := Sta.start ev_CANCELLED (Or.inr ⟨(hw _ (List.mem_of_getElem? (i := 2) rfl)), (hw _ (List.mem_of_getElem? (i := 15) rfl))⟩)
  have E_w_CANCELLED := Exa.start ev_CANCELLED gv15
  obtain ⟨w_IN_PROGRESS, ev_IN_PROGRESS⟩ := exa_v gv19
  have S_IN_PROGRESS := Sta.start ev_IN_PROGRESS (Or.inr ⟨(hw _ (List.mem_of_getElem? (i := 2) rfl)), (hw _ (List.mem_of_getElem? (i := 33) rfl))⟩)
  have E_w_IN_PROGRESS := Exa.start ev_IN_PROGRESS gv19
  have F_ordinal_w_COMPLETED := own_feq ev_COMPLETED gv7
  have F_ordinal_w_PENDING := own_feq ev_PENDING gv9
  have F_ordinal_w_READY := own_feq ev_READY gv13
  have F_ordinal_w_CANCELLED := own_feq ev_CANCELLED gv17
  have F_ordinal_w_IN_PROGRESS := own_feq ev_IN_PROGRESS gv20
  have ne_w_READY_w_PENDING := Fld.ne F_ordinal_w_READY F_ordinal_w_PENDING (by decide)
  have ne_w_IN_PROGRESS_w_PENDING := Fld.ne F_ordinal_w_IN_PROGRESS F_ordinal_w_PENDING (by decide)
  have ne_w_COMPLETED_w_PENDING := Fld.ne F_ordinal_w_COMPLETED F_ordinal_w_PENDING (by decide)
  have ne_w_CANCELLED_w_PENDING := Fld.ne F_ordinal_w_CANCELLED F_ordinal_w_PENDING (by decide)
  have ne_w_IN_PROGRESS_w_READY := Fld.ne F_ordinal_w_IN_PROGRESS F_ordinal_w_READY (by decide)
  have ne_w_COMPLETED_w_READY := Fld.ne F_ordinal_w_COMPLETED F_ordinal_w_READY (by decide)
  have ne_w_CANCELLED_w_READY := Fld.ne F_ordinal_w_CANCELLED F_ordinal_w_READY (by decide)
  have ne_w_IN_PROGRESS_w_CANCELLED := Fld.ne F_ordinal_w_IN_PROGRESS F_ordinal_w_CANCELLED (by decide)
  have ne_w_COMPLETED_w_CANCELLED := Fld.ne F_ordinal_w_COMPLETED F_ordinal_w_CANCELLED (by decide)
  obtain ⟨n, o, h1, h2, h3, _, L, rfl, ⟨rfl, N⟩, hq⟩ := rm0 l s _ hw tables_1 i0 w_PENDING w_COMPLETED w_READY w_CANCELLED w_IN_PROGRESS s.heap s.heap.size (Nat.le_refl _) O0 S_PENDING S_COMPLETED S_READY S_CANCELLED S_IN_PROGRESS E_w_PENDING E_w_COMPLETED E_w_READY E_w_CANCELLED E_w_IN_PROGRESS F_ordinal_w_COMPLETED F_ordinal_w_PENDING F_ordinal_w_READY F_ordinal_w_CANCELLED F_ordinal_w_IN_PROGRESS ne_w_READY_w_PENDING ne_w_IN_PROGRESS_w_PENDING ne_w_COMPLETED_w_PENDING ne_w_CANCELLED_w_PENDING ne_w_IN_PROGRESS_w_READY ne_w_COMPLETED_w_READY ne_w_CANCELLED_w_READY ne_w_IN_PROGRESS_w_CANCELLED ne_w_COMPLETED_w_CANCELLED p e ha hc hk s m _ below hf ((Spec.applies_iff_loose hf).mp happ).1 ⟨rfl, State.Warmed39.refl s, rfl⟩ trivial
  refine ⟨n, _, h1, h2, h3, hpost _ _ _ _ _ _ ⟨Cond.after_iff.mpr rfl, Cond.after_iff.mpr (eq_i res_at (Term.int_eval (1)) (congrArg Value.int (law_eq i0 w_PENDING w_COMPLETED w_READY w_CANCELLED w_IN_PROGRESS ne_w_READY_w_PENDING ne_w_IN_PROGRESS_w_PENDING ne_w_COMPLETED_w_PENDING ne_w_CANCELLED_w_PENDING ne_w_IN_PROGRESS_w_READY ne_w_COMPLETED_w_READY ne_w_CANCELLED_w_READY ne_w_IN_PROGRESS_w_CANCELLED ne_w_COMPLETED_w_CANCELLED))), trivial⟩ ⟨hq.1, hq.2.1, (hq.2.2.sift fun y hy => Or.inr (N y hy)).mono (by decide) (by decide)⟩⟩
theorem main_1_1 : Claimed_1_1 := comes_1 fun _ _ _ _ _ _ h hF => ⟨h.1, hF⟩
theorem main_1_2 : Claimed_1_2 := comes_1 fun _ _ _ _ _ _ h hF => ⟨h.2.1, hF⟩
end Jvm.Pilot.@@N@@
namespace Jvm.Pilot.@@N@@
open Jvm Jvm.ClassFile Sem Op Lib Jvm.Free Jvm.Stand Jvm.Pilot.@@N@@.Jvm.D
/-! MADE BY PROGRAM (witnessworld.py) out of the Statement's table words and the real class files: 13 classes; the members and pool entries that the words name. The judged class is class 1, her method 1. -/
namespace start1
open Jvm.ClassFile
def u (s : String) : CpInfo := .utf8 (stringToUtf16 s)
/-- a pool by its gaps: so many unusable entries, then the entry; so many at the end -/
def gap : Nat → List CpInfo → List CpInfo
  | 0, r => r
  | n + 1, r => .unusable :: gap n r
def poolList (es : List (Nat × CpInfo)) (last : Nat) : List CpInfo := es.foldr (fun e r => gap e.1 (e.2 :: r)) (gap last [])
def pool (es : List (Nat × CpInfo)) (last : Nat) : Array CpInfo := ⟨poolList es last⟩
def fileOf (pool : Array CpInfo) (this : Nat) (attrs : Array Attribute := #[]) (ms : Array MethodInfo := #[]) (fl : Nat := 33) (sup : Nat := 0) (ifs : Array Nat := #[]) (fds : Array FieldInfo := #[]) : ClassFile where
  minorVersion := 0
  majorVersion := 65
  constantPool := pool
  accessFlags := fl
  thisClass := this
  superClass := sup
  interfaces := ifs
  fields := fds
  methods := ms
  attributes := attrs
def plain (name : String) (sup : Option ClassId) : Class where
  name := name
  kind := .ordinary
  loader := none
  accessFlags := 33
  super := sup
  interfaces := #[]
  cf := none
  fields := #[]
  methods := #[]
  instanceTypes := #[]
  staticTypes := #[]
  resolved := #[]
  callSites := []
  init := .initialized
  statics := none
  mirror := none

def pool0 : Array CpInfo := pool [(5, u "<init>"), (0, u "()V"), (1, .class_ 10), (1, u "java/lang/Object")] 113

def k0m0 : Method := { name := "<init>", desc := "()V", sig := { parameters := [], returnType := none }, accessFlags := 1, code := none }
/-- java/lang/Object -/
def k0 : Class := { plain "java/lang/Object" none with
  accessFlags := 33
  interfaces := #[]
  cf := some (fileOf pool0 8 #[] #[{ accessFlags := 1, nameIndex := 5, descriptorIndex := 6, attributes := #[] }] 33 0 #[] #[])
  fields := #[]
  methods := #[k0m0]
  instanceTypes := #[]
  staticTypes := #[]
  resolved := Array.replicate 124 none
  statics := none }

def pool1 : Array CpInfo := pool [(2, .class_ 4), (1, u "java/lang/Object"), (0, u "<init>"), (0, u "()V"), (0, .integer 2147483647), (0, .fieldref 9 10), (0, .class_ 11), (0, .nameAndType 12 13), (0, u "com/example/indenture/indenture/status/RevenuePlanStatus"), (0, u "PENDING"), (0, u "Lcom/example/indenture/indenture/status/RevenuePlanStatus;"), (0, .fieldref 9 15), (0, .nameAndType 16 13), (0, u "READY"), (0, .fieldref 9 18), (0, .nameAndType 19 13), (0, u "IN_PROGRESS"), (0, .fieldref 9 21), (0, .nameAndType 22 13), (0, u "COMPLETED"), (0, .fieldref 9 24), (0, .nameAndType 25 13), (0, u "CANCELLED"), (0, .methodref 9 27), (0, .nameAndType 28 29), (0, u "isSetByHand"), (0, u "()Z"), (0, .methodref 9 31), (0, .nameAndType 32 33), (0, u "canMoveTo"), (0, u "(Lcom/example/indenture/indenture/status/RevenuePlanStatus;)Z"), (0, .class_ 35), (0, u "com/example/indenture/indenture/status/RevenuePlanStatusIsSetByHandPinLaw"), (2, u "law"), (0, u "(I)Z")] 3

def k1m0 : Method := { name := "<init>", desc := "()V", sig := { parameters := [], returnType := none }, accessFlags := 1, code := none }
def k1c1 : Code := { maxStack := 2, maxLocals := 6, code := code, exceptionTable := #[], attributes := #[] }
def k1m1 : Method := { name := "law", desc := "(I)Z", sig := { parameters := [.int], returnType := some .boolean }, accessFlags := 9, code := some k1c1 }
/-- com/example/indenture/indenture/status/RevenuePlanStatusIsSetByHandPinLaw -/
def k1 : Class := { plain "com/example/indenture/indenture/status/RevenuePlanStatusIsSetByHandPinLaw" (some 0) with
  accessFlags := 49
  interfaces := #[]
  cf := some (fileOf pool1 34 #[] #[{ accessFlags := 1, nameIndex := 5, descriptorIndex := 6, attributes := #[] }, { accessFlags := 9, nameIndex := 38, descriptorIndex := 39, attributes := #[] }] 49 2 #[] #[])
  fields := #[]
  methods := #[k1m0, k1m1]
  instanceTypes := #[]
  staticTypes := #[]
  resolved := Array.replicate 43 none
  statics := none }

def pool2 : Array CpInfo := pool [(1, .class_ 2), (0, u "java/lang/constant/Constable"), (0, .class_ 4), (0, u "java/lang/Object")] 6

/-- java/lang/constant/Constable -/
def k2 : Class := { plain "java/lang/constant/Constable" (some 0) with
  accessFlags := 1537
  interfaces := #[]
  cf := some (fileOf pool2 1 #[] #[] 1537 3 #[] #[])
  fields := #[]
  methods := #[]
  instanceTypes := #[]
  staticTypes := #[]
  resolved := Array.replicate 11 none
  statics := none }

def pool3 : Array CpInfo := pool [(1, .class_ 2), (0, u "java/lang/Comparable"), (0, .class_ 4), (0, u "java/lang/Object")] 7

/-- java/lang/Comparable -/
def k3 : Class := { plain "java/lang/Comparable" (some 0) with
  accessFlags := 1537
  interfaces := #[]
  cf := some (fileOf pool3 1 #[] #[] 1537 3 #[] #[])
  fields := #[]
  methods := #[]
  instanceTypes := #[]
  staticTypes := #[]
  resolved := Array.replicate 12 none
  statics := none }

def pool4 : Array CpInfo := pool [(1, .class_ 2), (0, u "java/io/Serializable"), (0, .class_ 4), (0, u "java/lang/Object")] 2

/-- java/io/Serializable -/
def k4 : Class := { plain "java/io/Serializable" (some 0) with
  accessFlags := 1537
  interfaces := #[]
  cf := some (fileOf pool4 1 #[] #[] 1537 3 #[] #[])
  fields := #[]
  methods := #[]
  instanceTypes := #[]
  staticTypes := #[]
  resolved := Array.replicate 7 none
  statics := none }

def pool5 : Array CpInfo := pool [(2, .class_ 4), (1, u "java/lang/Enum"), (0, u "name"), (0, u "Ljava/lang/String;"), (0, .fieldref 2 8), (0, .nameAndType 9 10), (0, u "ordinal"), (0, u "I"), (1, .class_ 14), (1, u "java/lang/Object"), (4, u "hash"), (86, .class_ 108), (1, u "java/lang/Enum$EnumDesc"), (2, .class_ 112), (0, u "java/lang/constant/Constable"), (0, .class_ 114), (0, u "java/lang/Comparable"), (0, .class_ 116), (0, u "java/io/Serializable"), (9, u "()I")] 77

def k5c0 : Code := { maxStack := 1, maxLocals := 1, code := jdk_37_method_2_code, exceptionTable := #[], attributes := #[] }
def k5m0 : Method := { name := "ordinal", desc := "()I", sig := { parameters := [], returnType := some .int }, accessFlags := 17, code := some k5c0 }
/-- java/lang/Enum -/
def k5 : Class := { plain "java/lang/Enum" (some 0) with
  accessFlags := 1057
  interfaces := #[2, 3, 4]
  cf := some (fileOf pool5 2 #[.nestMembers #[106]] #[{ accessFlags := 17, nameIndex := 9, descriptorIndex := 126, attributes := #[] }] 1057 12 #[111, 113, 115] #[{ accessFlags := 18, nameIndex := 5, descriptorIndex := 6, attributes := #[] }, { accessFlags := 18, nameIndex := 9, descriptorIndex := 10, attributes := #[] }, { accessFlags := 2, nameIndex := 19, descriptorIndex := 10, attributes := #[] }])
  fields := #[{ name := "name", type := (.object "java/lang/String"), accessFlags := 18, slot := 0, constantValue := 0 }, { name := "ordinal", type := .int, accessFlags := 18, slot := 1, constantValue := 0 }, { name := "hash", type := .int, accessFlags := 2, slot := 2, constantValue := 0 }]
  methods := #[k5m0]
  instanceTypes := #[(.object "java/lang/String"), .int, .int]
  staticTypes := #[]
  resolved := Array.replicate 204 none
  statics := none }

def pool6 : Array CpInfo := pool [(8, .class_ 10), (1, u "com/example/indenture/indenture/status/Status"), (83, .class_ 95), (0, u "java/lang/Object")] 50

/-- com/example/indenture/indenture/status/Status -/
def k6 : Class := { plain "com/example/indenture/indenture/status/Status" (some 0) with
  accessFlags := 1537
  interfaces := #[]
  cf := some (fileOf pool6 8 #[] #[] 1537 94 #[] #[])
  fields := #[]
  methods := #[]
  instanceTypes := #[]
  staticTypes := #[]
  resolved := Array.replicate 146 none
  statics := none }

def pool7 : Array CpInfo := pool [(1, .class_ 2), (0, u "com/example/indenture/indenture/status/RevenuePlanStatus"), (0, .fieldref 1 4), (0, .nameAndType 5 6), (0, u "PENDING"), (0, u "Lcom/example/indenture/indenture/status/RevenuePlanStatus;"), (0, .fieldref 1 8), (0, .nameAndType 9 6), (0, u "READY"), (2, u "IN_PROGRESS"), (2, u "COMPLETED"), (0, .fieldref 1 17), (0, .nameAndType 18 6), (0, u "CANCELLED"), (2, u "$VALUES"), (0, u "[Lcom/example/indenture/indenture/status/RevenuePlanStatus;"), (6, .class_ 31), (1, u "java/lang/Enum"), (6, .methodref 1 39), (0, .nameAndType 40 41), (0, u "ordinal"), (0, u "()I"), (7, u "canMoveTo"), (0, u "(Lcom/example/indenture/indenture/status/RevenuePlanStatus;)Z"), (10, .class_ 62), (0, u "com/example/indenture/indenture/status/Status"), (9, u "()Z"), (0, u "isSetByHand")] 6

def k7c0 : Code := { maxStack := 4, maxLocals := 2, code := prog_120_method_4_code, exceptionTable := #[], attributes := #[] }
def k7m0 : Method := { name := "canMoveTo", desc := "(Lcom/example/indenture/indenture/status/RevenuePlanStatus;)Z", sig := { parameters := [(.object "com/example/indenture/indenture/status/RevenuePlanStatus")], returnType := some .boolean }, accessFlags := 1, code := some k7c0 }
def k7c1 : Code := { maxStack := 2, maxLocals := 1, code := prog_120_method_6_code, exceptionTable := #[], attributes := #[] }
def k7m1 : Method := { name := "isSetByHand", desc := "()Z", sig := { parameters := [], returnType := some .boolean }, accessFlags := 1, code := some k7c1 }
/-- com/example/indenture/indenture/status/RevenuePlanStatus -/
def k7 : Class := { plain "com/example/indenture/indenture/status/RevenuePlanStatus" (some 5) with
  accessFlags := 16433
  interfaces := #[6]
  cf := some (fileOf pool7 1 #[] #[{ accessFlags := 1, nameIndex := 49, descriptorIndex := 50, attributes := #[] }, { accessFlags := 1, nameIndex := 73, descriptorIndex := 72, attributes := #[] }] 16433 29 #[61] #[{ accessFlags := 16409, nameIndex := 5, descriptorIndex := 6, attributes := #[] }, { accessFlags := 16409, nameIndex := 9, descriptorIndex := 6, attributes := #[] }, { accessFlags := 16409, nameIndex := 12, descriptorIndex := 6, attributes := #[] }, { accessFlags := 16409, nameIndex := 15, descriptorIndex := 6, attributes := #[] }, { accessFlags := 16409, nameIndex := 18, descriptorIndex := 6, attributes := #[] }, { accessFlags := 4122, nameIndex := 21, descriptorIndex := 22, attributes := #[] }])
  fields := #[{ name := "PENDING", type := (.object "com/example/indenture/indenture/status/RevenuePlanStatus"), accessFlags := 16409, slot := 0, constantValue := 0 }, { name := "READY", type := (.object "com/example/indenture/indenture/status/RevenuePlanStatus"), accessFlags := 16409, slot := 1, constantValue := 0 }, { name := "IN_PROGRESS", type := (.object "com/example/indenture/indenture/status/RevenuePlanStatus"), accessFlags := 16409, slot := 2, constantValue := 0 }, { name := "COMPLETED", type := (.object "com/example/indenture/indenture/status/RevenuePlanStatus"), accessFlags := 16409, slot := 3, constantValue := 0 }, { name := "CANCELLED", type := (.object "com/example/indenture/indenture/status/RevenuePlanStatus"), accessFlags := 16409, slot := 4, constantValue := 0 }, { name := "$VALUES", type := (.array (.object "com/example/indenture/indenture/status/RevenuePlanStatus")), accessFlags := 4122, slot := 5, constantValue := 0 }]
  methods := #[k7m0, k7m1]
  instanceTypes := #[(.object "java/lang/String"), .int, .int]
  staticTypes := #[(.object "com/example/indenture/indenture/status/RevenuePlanStatus"), (.object "com/example/indenture/indenture/status/RevenuePlanStatus"), (.object "com/example/indenture/indenture/status/RevenuePlanStatus"), (.object "com/example/indenture/indenture/status/RevenuePlanStatus"), (.object "com/example/indenture/indenture/status/RevenuePlanStatus"), (.array (.object "com/example/indenture/indenture/status/RevenuePlanStatus"))]
  resolved := Array.replicate 80 none
  statics := some 0 }

def pool8 : Array CpInfo := pool [(1, u "java/lang/Cloneable"), (0, .class_ 1), (0, u "java/lang/Object"), (0, .class_ 3)] 3

/-- java/lang/Cloneable -/
def k8 : Class := { plain "java/lang/Cloneable" (some 0) with
  accessFlags := 1537
  interfaces := #[]
  cf := some (fileOf pool8 2 #[] #[] 1537 4 #[] #[])
  fields := #[]
  methods := #[]
  instanceTypes := #[]
  staticTypes := #[]
  resolved := Array.replicate 8 none
  statics := none }

/-- the primitive byte -/
def k9 : Class := { plain "byte" none with kind := .primitive 'B', accessFlags := 0x411 }
/-- [B -/
def k10 : Class := { plain "[B" (some 0) with kind := .array 9 .byte, interfaces := #[8, 4], accessFlags := 1041 }

/-- the primitive int -/
def k11 : Class := { plain "int" none with kind := .primitive 'I', accessFlags := 0x411 }
/-- [I -/
def k12 : Class := { plain "[I" (some 0) with kind := .array 11 .int, interfaces := #[8, 4], accessFlags := 1041 }

def heap : Heap := #[{ cls := 7, slots := #[.ref 1, .ref 3, .ref 5, .ref 2, .ref 4, .null], vm := .statics 7 },
  { cls := 7, slots := #[.null, .int 0, .int 0], vm := .none },
  { cls := 7, slots := #[.null, .int 3, .int 0], vm := .none },
  { cls := 7, slots := #[.null, .int 1, .int 0], vm := .none },
  { cls := 7, slots := #[.null, .int 4, .int 0], vm := .none },
  { cls := 7, slots := #[.null, .int 2, .int 0], vm := .none }]
def classes : Array Class := #[k0, k1, k2, k3, k4, k5, k6, k7, k8, k9, k10, k11, k12]
def interned : List (Array UInt16 × Addr) := []
def slotsUsed : Nat := 21
def theMethod : MethodId := ⟨1, 1⟩
def args0 : Array Value := #[.int 3]
def aboutOver (below : List Frame) : State where
  vm := { classes := classes, interned := interned.toArray }
  heap := heap
  slotsUsed := slotsUsed
  threads := #[{ frames := .invoking theMethod args0 :: below }]
def below0 : List Frame := [.native { method := ⟨0, 0⟩, args := #[] }]
def about1 : State := aboutOver below0
def p0 : Program := .bare "" "" ""
def e0 : Env := launch0.env 0 0 0
theorem w_frames : about1.frames = Frame.invoking theMethod args0 :: below0 := rfl
set_option maxRecDepth 65536 in
theorem w_args : argsFit about1.vm theMethod args0 = true := by decide +kernel
set_option maxRecDepth 65536 in
theorem w_heap : heapFits about1 = true := by decide +kernel
set_option maxRecDepth 65536 in
theorem w_runnable : about1.curStatus? = some .runnable := by decide +kernel
set_option maxRecDepth 65536 in
theorem w_alone : about1.alone = true := by decide +kernel
set_option maxRecDepth 65536 in
theorem w_named : about1.methodNamed? x = some theMethod := by decide +kernel
set_option maxRecDepth 65536 in
theorem w_hears : about1.hears theMethod below0 = true := by decide +kernel
set_option maxRecDepth 65536 in
theorem w_ripe : about1.ripe theMethod args0 below0 = true := by decide +kernel
theorem w_running : about1.status = .running := rfl
set_option maxRecDepth 65536 in
theorem w_room : about1.hasRoom e0.platform room_1 = true :=
  launch0.hasRoom_least _ room_1 (by decide +kernel) (by decide +kernel) (by decide +kernel) (by decide +kernel) (by decide +kernel) (by decide +kernel)
theorem allAtoms_all (ts : List Jvm.Cond) (a : Array Jvm.Value) (st : Jvm.State) : (allAtoms ts).before a st = ts.all (fun c => c.before a st) := by
  induction ts with
  | nil => rfl
  | cons c t ih =>
    show (Jvm.Cond.and c (allAtoms t)).before a st = _
    rw [Jvm.Cond.before_and, ih, List.all_cons]
def words1 : List Jvm.Cond := Jvm.Cond.code x code maxLocals ret :: tables_1
/-- a 'code' word, met by the world's own term for the bytes: nothing is compared byte by byte -/
theorem code_word {y : MethodName} {bytes : ByteArray} {mx : Nat} {rt : Option FieldType} {a : Array Value} {s : State} {m : MethodId} {meth : Method} {c : Code} (h1 : s.methodNamed? y = some m) (h2 : s.vm.method? m = some meth) (h3 : meth.code = some c) (h4 : c.code = bytes)
    (h5 : (c.maxLocals == mx && c.exceptionTable.isEmpty && decide (c.maxStack ≤ mostOperands) && decide (meth.sig.returnType = rt) && !meth.locks && decide (parseMethodDescriptor y.desc = some meth.sig)) = true) : (Jvm.Cond.code y bytes mx rt).before a s = true := by
  simp only [Bool.and_eq_true, beq_iff_eq, Bool.not_eq_true', decide_eq_true_eq] at h5
  obtain ⟨⟨⟨⟨⟨g1, g2⟩, g3⟩, g4⟩, g5⟩, g6⟩ := h5
  simp [Cond.before, Cond.holds, Cond.value, h1, h2, h3, h4, g1, g2, g3, g4, g5, g6]
def isCode : Jvm.Cond → Bool
  | .code _ _ _ _ => true
  | _ => false
theorem all_split {L : List Jvm.Cond} {P : Jvm.Cond → Bool} (h1 : L.all (fun c => isCode c || P c) = true) (h2 : ∀ c ∈ L.filter isCode, P c = true) : L.all P = true := by
  refine List.all_eq_true.mpr fun c hc => ?_
  have h := List.all_eq_true.mp h1 c hc
  rcases Bool.eq_false_or_eq_true (isCode c) with hi | hi
  · exact h2 c (List.mem_filter.mpr ⟨hc, hi⟩)
  · simpa [hi] using h
set_option maxRecDepth 65536 in
theorem w_c0 : (Jvm.Cond.code x code maxLocals ret).before args0 about1 = true := code_word (m := ⟨1, 1⟩) (meth := k1m1) (c := k1c1) (by decide +kernel) rfl rfl rfl (by decide +kernel)
set_option maxRecDepth 65536 in
theorem w_c1 : (Jvm.Cond.code ({ cls := "com/example/indenture/indenture/status/RevenuePlanStatus", name := "isSetByHand", desc := "()Z" } : Jvm.MethodName) prog_120_method_6_code (1 : Nat) (Option.some Jvm.ClassFile.FieldType.boolean)).before args0 about1 = true := code_word (m := ⟨7, 1⟩) (meth := k7m1) (c := k7c1) (by decide +kernel) rfl rfl rfl (by decide +kernel)
set_option maxRecDepth 65536 in
theorem w_c2 : (Jvm.Cond.code ({ cls := "com/example/indenture/indenture/status/RevenuePlanStatus", name := "canMoveTo", desc := "(Lcom/example/indenture/indenture/status/RevenuePlanStatus;)Z" } : Jvm.MethodName) prog_120_method_4_code (2 : Nat) (Option.some Jvm.ClassFile.FieldType.boolean)).before args0 about1 = true := code_word (m := ⟨7, 0⟩) (meth := k7m0) (c := k7c0) (by decide +kernel) rfl rfl rfl (by decide +kernel)
set_option maxRecDepth 65536 in
theorem w_c3 : (Jvm.Cond.code ({ cls := "java/lang/Enum", name := "ordinal", desc := "()I" } : Jvm.MethodName) jdk_37_method_2_code (1 : Nat) (Option.some Jvm.ClassFile.FieldType.int)).before args0 about1 = true := code_word (m := ⟨5, 0⟩) (meth := k5m0) (c := k5c0) (by decide +kernel) rfl rfl rfl (by decide +kernel)
def codes1 : List Jvm.Cond := [Jvm.Cond.code x code maxLocals ret, Jvm.Cond.code ({ cls := "com/example/indenture/indenture/status/RevenuePlanStatus", name := "isSetByHand", desc := "()Z" } : Jvm.MethodName) prog_120_method_6_code (1 : Nat) (Option.some Jvm.ClassFile.FieldType.boolean), Jvm.Cond.code ({ cls := "com/example/indenture/indenture/status/RevenuePlanStatus", name := "canMoveTo", desc := "(Lcom/example/indenture/indenture/status/RevenuePlanStatus;)Z" } : Jvm.MethodName) prog_120_method_4_code (2 : Nat) (Option.some Jvm.ClassFile.FieldType.boolean), Jvm.Cond.code ({ cls := "java/lang/Enum", name := "ordinal", desc := "()I" } : Jvm.MethodName) jdk_37_method_2_code (1 : Nat) (Option.some Jvm.ClassFile.FieldType.int)]
set_option maxRecDepth 65536 in
theorem codes_eq : words1.filter isCode = codes1 := rfl
theorem w_codes : ∀ c ∈ words1.filter isCode, c.before args0 about1 = true := by
  rw [codes_eq]
  intro c hc
  simp only [codes1, List.mem_cons, List.not_mem_nil, or_false] at hc
  rcases hc with rfl | rfl | rfl | rfl
  · exact w_c0
  · exact w_c1
  · exact w_c2
  · exact w_c3
set_option maxRecDepth 65536 in
theorem w_t1 : (words1.take 24).all (fun c => isCode c || c.before args0 about1) = true := by decide +kernel
set_option maxRecDepth 65536 in
theorem w_t2 : (words1.drop 24).all (fun c => isCode c || c.before args0 about1) = true := by decide +kernel
theorem w_tables : (allAtoms (Jvm.Cond.code x code maxLocals ret :: tables_1)).before args0 about1 = true := by
  rw [allAtoms_all]
  show words1.all (fun c => c.before args0 about1) = true
  refine all_split ?_ w_codes
  rw [← List.take_append_drop 24 words1, List.all_append, w_t1, w_t2]
  rfl
set_option maxRecDepth 65536 in
theorem w_case : (Jvm.Cond.and given_1 narrow_1).before args0 about1 = true := by decide +kernel
theorem w_applies : (headSpec (Jvm.Cond.code x code maxLocals ret :: tables_1) room_1).applies x e0.platform about1 = true :=
  (Spec.applies_iff w_frames).mpr ⟨w_running, w_runnable, w_alone, w_named, w_hears, w_ripe, w_room, w_tables⟩
theorem atStart : AtStart classFile x code maxLocals ret World_1 tables_1 room_1 Calls_1 rest_1 Pre_1 launch0 p0 e0 about1 theMethod args0 below0 :=
  ⟨lists_1, trivial, launch0.admits_env _ _ _, launch0.least_env, fairChoices_fair.cas, fairChoices_fair.clock, w_frames, w_args, w_heap, w_applies, trivial, trivial, w_case⟩
end start1
theorem witness_1 : WitnessClaimed_1 := ⟨start1.p0, start1.e0, start1.about1, start1.theMethod, start1.args0, start1.below0, start1.atStart⟩
end Jvm.Pilot.@@N@@
