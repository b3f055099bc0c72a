import JvmDerived
import JvmDerived.Pilot.@@N@@Statement
import JvmDerived.Pilot.@@N@@Code
set_option linter.unusedVariables false
set_option linter.unusedSimpArgs false
namespace Jvm.RoadKit
open Sem ClassFile Op Lib Jvm.Stand Jvm.Free Jvm.LawKit
section New
variable {p : Program} {l : Launch} {e : Env} {R : Room} {s : State} {m : MethodId} {args : Array Value} {below : List Frame} {meth : Method} {c : Code} {T : State} {locs : List Loc} {cells slots : Nat}
theorem retI (X : Stand p l e R s m args below meth c T locs cells slots) (hx : p.tables.exec = Jvm.exec) {pc : Nat} {Ls : Array Slot} {z : Int32} {rest : List Value} (hret : meth.sig.returnType = some .int) (hd : decode c.code pc = .ok (.ireturn, 1)) {fs : List Frame}
    (hl : ∀ (f : JFrame) (acts : List Action), f.method = m → f.locked = none → f.entered = [] → (doReturn e (T.setTop f) acts (some (.int z))).1 = T.setFrames fs) : Steps p.tables e below (T.setTop (mkF m pc Ls (.int z :: rest))) (T.setFrames fs) :=
  retOut X hx hret rfl (Or.inl ⟨rfl, Or.inl rfl, _, rfl⟩) hd hl
end New
end Jvm.RoadKit
namespace Jvm.Pilot.@@N@@
open Jvm Jvm.ClassFile Sem Op Lib Jvm.Free Jvm.Stand Jvm.LawKit Jvm.RoadKit Bundle Jvm.Pilot.@@N@@.Jvm.D
theorem own_feq {args : Array Value} {s : State} {t : Term} {C n d : String} {k : Int32} {x : Addr} (ev : t.eval args s none [] s = some (.ref x)) (h : (Jvm.Cond.eq (.field t C n d) (.int k)).value args s none s [] = some true) : Fld s s.heap x C n d (.int k) := by
  apply Fld.start
  have e := fld_at (C := C) (n := n) (dd := d) ev
  simp only [Cond.value, e] at h
  cases hq : s.fieldOf? x C n d with
  | none => simp [hq] at h
  | some v => cases v <;> simp [hq, Term.eval] at h ⊢; exact h
theorem own_seq {args : Array Value} {s : State} {t : Term} {k : Int32} (h : (Jvm.Cond.eq t (.int k)).value args s none s [] = some true) : t.eval args s none [] s = some (.int k) := by
  simp only [Cond.value] at h
  cases hq : t.eval args s none [] s with
  | none => simp [hq] at h
  | some v => cases v <;> simp [hq, Term.eval] at h ⊢; exact h
theorem pn_0 : plainName "com/example/tenorcast/tenorcast/engine/AmortizationTypeAllowsInterestInAdvancePinLaw" = true := by first | (simp [plainName, overriddenIn]; done) | decide +kernel
theorem d1_0 : decode method_2_code 0 = .ok (.iload_n 0, 1) := by decide +kernel
theorem d1_1 : decode method_2_code 1 = .ok (.ifCond .ne 7, 3) := by decide +kernel
theorem d1_4 : decode method_2_code 4 = .ok (.getstatic 7, 3) := by decide +kernel
theorem d1_7 : decode method_2_code 7 = .ok (.areturn, 1) := by decide +kernel
theorem d1_8 : decode method_2_code 8 = .ok (.iload_n 0, 1) := by decide +kernel
theorem d1_9 : decode method_2_code 9 = .ok (.iconst 1, 1) := by decide +kernel
theorem d1_10 : decode method_2_code 10 = .ok (.if_icmp .ne 7, 3) := by decide +kernel
theorem d1_13 : decode method_2_code 13 = .ok (.getstatic 13, 3) := by decide +kernel
theorem d1_16 : decode method_2_code 16 = .ok (.areturn, 1) := by decide +kernel
theorem d1_17 : decode method_2_code 17 = .ok (.iload_n 0, 1) := by decide +kernel
theorem d1_18 : decode method_2_code 18 = .ok (.iconst 2, 1) := by decide +kernel
theorem d1_19 : decode method_2_code 19 = .ok (.if_icmp .ne 7, 3) := by decide +kernel
theorem d1_22 : decode method_2_code 22 = .ok (.getstatic 16, 3) := by decide +kernel
theorem d1_25 : decode method_2_code 25 = .ok (.areturn, 1) := by decide +kernel
theorem d1_26 : decode method_2_code 26 = .ok (.iload_n 0, 1) := by decide +kernel
theorem d1_27 : decode method_2_code 27 = .ok (.iconst 3, 1) := by decide +kernel
theorem d1_28 : decode method_2_code 28 = .ok (.if_icmp .ne 7, 3) := by decide +kernel
theorem d1_31 : decode method_2_code 31 = .ok (.getstatic 19, 3) := by decide +kernel
theorem d1_34 : decode method_2_code 34 = .ok (.areturn, 1) := by decide +kernel
theorem d1_35 : decode method_2_code 35 = .ok (.iload_n 0, 1) := by decide +kernel
theorem d1_36 : decode method_2_code 36 = .ok (.iconst 4, 1) := by decide +kernel
theorem d1_37 : decode method_2_code 37 = .ok (.if_icmp .ne 7, 3) := by decide +kernel
theorem d1_40 : decode method_2_code 40 = .ok (.getstatic 22, 3) := by decide +kernel
theorem d1_43 : decode method_2_code 43 = .ok (.areturn, 1) := by decide +kernel
theorem d1_44 : decode method_2_code 44 = .ok (.getstatic 25, 3) := by decide +kernel
theorem d1_47 : decode method_2_code 47 = .ok (.areturn, 1) := by decide +kernel
theorem ef_1 (m : MethodId) (x0 : Int32) : entryFrame m #[(.int x0)] 1 = mkF m 0 #[.val (.int x0)] [] := by first | (simp [entryFrame, mkF, argsToLocals, Value.category]; done) | rfl
def f1 (p1 : Int32) (v_CONVENTIONAL : Addr) (v_SIMPLE_INTEREST : Addr) (v_PAYMENT_SCHEDULE : Addr) (v_LEVEL_PRINCIPAL : Addr) (v_OTHER : Addr) (v_PAYMENT_PATTERN : Addr) : Addr := if p1 = (0 : Int32) then v_CONVENTIONAL else (if p1 = (1 : Int32) then v_SIMPLE_INTEREST else (if p1 = (2 : Int32) then v_PAYMENT_SCHEDULE else (if p1 = (3 : Int32) then v_LEVEL_PRINCIPAL else (if p1 = (4 : Int32) then v_OTHER else v_PAYMENT_PATTERN))))
def Q1 (Z : State) (p1 : Int32) (v_CONVENTIONAL : Addr) (v_SIMPLE_INTEREST : Addr) (v_PAYMENT_SCHEDULE : Addr) (v_LEVEL_PRINCIPAL : Addr) (v_OTHER : Addr) (v_PAYMENT_PATTERN : Addr) (h0 : Heap) (n0 : Nat) (v : Option Value) (h : Heap) (L : List Loc) : Prop := v = some (.ref (f1 p1 v_CONVENTIONAL v_SIMPLE_INTEREST v_PAYMENT_SCHEDULE v_LEVEL_PRINCIPAL v_OTHER v_PAYMENT_PATTERN)) ∧ Fr n0 L ∧ h = h0
set_option maxRecDepth 65536 in
set_option maxHeartbeats 40000000 in
theorem rm1 (l : Launch) (Z : State) (a0 : Array Value) (hw : ∀ d ∈ tables_1, d.before a0 Z = true) (ws : List Jvm.Cond) (p1 : Int32) (v_CONVENTIONAL : Addr) (v_SIMPLE_INTEREST : Addr) (v_PAYMENT_SCHEDULE : Addr) (v_LEVEL_PRINCIPAL : Addr) (v_OTHER : Addr) (v_PAYMENT_PATTERN : Addr) (h0 : Heap) (n0 : Nat) (Z0 : n0 ≤ h0.size) (S_CONVENTIONAL : Sta Z h0 "com/example/tenorcast/tenorcast/engine/AmortizationType" "CONVENTIONAL" "Lcom/example/tenorcast/tenorcast/engine/AmortizationType;" (.ref v_CONVENTIONAL)) (S_SIMPLE_INTEREST : Sta Z h0 "com/example/tenorcast/tenorcast/engine/AmortizationType" "SIMPLE_INTEREST" "Lcom/example/tenorcast/tenorcast/engine/AmortizationType;" (.ref v_SIMPLE_INTEREST)) (S_PAYMENT_SCHEDULE : Sta Z h0 "com/example/tenorcast/tenorcast/engine/AmortizationType" "PAYMENT_SCHEDULE" "Lcom/example/tenorcast/tenorcast/engine/AmortizationType;" (.ref v_PAYMENT_SCHEDULE)) (S_LEVEL_PRINCIPAL : Sta Z h0 "com/example/tenorcast/tenorcast/engine/AmortizationType" "LEVEL_PRINCIPAL" "Lcom/example/tenorcast/tenorcast/engine/AmortizationType;" (.ref v_LEVEL_PRINCIPAL)) (S_OTHER : Sta Z h0 "com/example/tenorcast/tenorcast/engine/AmortizationType" "OTHER" "Lcom/example/tenorcast/tenorcast/engine/AmortizationType;" (.ref v_OTHER)) (S_PAYMENT_PATTERN : Sta Z h0 "com/example/tenorcast/tenorcast/engine/AmortizationType" "PAYMENT_PATTERN" "Lcom/example/tenorcast/tenorcast/engine/AmortizationType;" (.ref v_PAYMENT_PATTERN)) :
    MetFree l (⟨"com/example/tenorcast/tenorcast/engine/AmortizationTypeAllowsInterestInAdvancePinLaw", "pick", "(I)Lcom/example/tenorcast/tenorcast/engine/AmortizationType;"⟩ : MethodName) (head1 (Jvm.Cond.code (⟨"com/example/tenorcast/tenorcast/engine/AmortizationTypeAllowsInterestInAdvancePinLaw", "pick", "(I)Lcom/example/tenorcast/tenorcast/engine/AmortizationType;"⟩ : MethodName) method_2_code 1 (some (.object "com/example/tenorcast/tenorcast/engine/AmortizationType")) :: ws) ({ frames := 0, cells := 0, slots := 0, locals := 0 } : Room)) (fun a U => a = #[(.int p1)] ∧ Z.Warmed39 U.vm ∧ U.heap = h0) (fun _ _ _ _ _ => True) (fun _ U o U' => ∃ v L, o = .returned v ∧ Q1 Z p1 v_CONVENTIONAL v_SIMPLE_INTEREST v_PAYMENT_SCHEDULE v_LEVEL_PRINCIPAL v_OTHER v_PAYMENT_PATTERN h0 n0 v U'.heap L ∧ FrameEnd U o U' L ({ frames := 0, cells := 0, slots := 0, locals := 0 } : Room).cells ({ frames := 0, cells := 0, slots := 0, locals := 0 } : Room).slots) := by
  refine MetFree.of_bodySF (plainFor_of_name pn_0) hisR ?_
  intro p e s m args below meth c s₁ Bd hml0 hP hK
  obtain ⟨rfl, hZ, hh⟩ := hP
  have hx := Bd.exec
  have hby := Bd.bytes
  have hml : c.maxLocals = 1 := hml0
  have hown : s.vm.findClass "com/example/tenorcast/tenorcast/engine/AmortizationTypeAllowsInterestInAdvancePinLaw" = some m.cls := findClass_of_methodNamed Bd.named
  have hnm := (name_of_methodNamed Bd.named Bd.method).1
  have X0 : Stand p l e ({ frames := 0, cells := 0, slots := 0, locals := 0 } : Room) s m #[(.int p1)] below meth c s₁ [] 0 0 := Stand.of_body Bd
  have e0 : s₁.heap = h0 := by rw [← hh, Bd.state]; rfl
  have N0 := Fr.nil n0
  have pre0 : ∀ t, Steps p.tables e below (s₁.setTop (mkF m 0 #[.val (.int p1)] [])) t → Steps p.tables e below (s₁.setTop (entryFrame m #[(.int p1)] 1)) t := fun t k => castTop (ef_1 m p1) k
  have pre1 : ∀ t, Steps p.tables e below (s₁.setTop (mkF m 1 #[.val (.int p1)] [(.int p1)])) t → Steps p.tables e below (s₁.setTop (entryFrame m #[(.int p1)] 1)) t := fun t k => pre0 t (by
    show Steps p.tables e below (s₁.setTop (mkF m 0 #[.val (.int p1)] [])) _
    refine XS.iloadN X0.here hx rfl (hb hby d1_0) rfl ?_
    exact k)
  by_cases hc2 : p1 = (0 : Int32)
  ·  -- pc 1: p1 = (0 : Int32)
    obtain ⟨T3, X3, e3, st3⟩ := getS2 X0 hx hZ hown (host := "") (Or.inl (hw _ (List.mem_of_getElem? (i := 5) rfl))) Via.refl e0 S_CONVENTIONAL (g := (mkF m 4 #[.val (.int p1)] [])) rfl (hb hby d1_4)
    obtain ⟨fs, hr, hrun, hended, hW, hsame⟩ := X3.leave (v := some (.ref v_CONVENTIONAL)) (fun h => by rw [Bd.returns] at h; cases h)
    refine ⟨_, _, pre1 _ ?_, hrun, hended, _, _, rfl, ?_, ⟨_, rfl⟩, hW, hsame.mono (by decide) (by decide)⟩
    · show Steps p.tables e below (s₁.setTop (mkF m 1 #[.val (.int p1)] [(.int p1)])) _
      refine XS.ifNo X0.here hx rfl (hb hby d1_1) rfl ((if0 _ _).trans (teq hc2).2) ?_
      show Steps p.tables e below (s₁.setTop (mkF m 4 #[.val (.int p1)] [])) _
      refine st3 _ ?_
      show Steps p.tables e below (T3.setTop (mkF m 7 #[.val (.int p1)] [(.ref v_CONVENTIONAL)])) _
      exact retOut X3 hx (t := (.object "com/example/tenorcast/tenorcast/engine/AmortizationType")) Bd.returns rfl (Or.inr (Or.inr (Or.inr (Or.inr ⟨rfl, rfl, rfl⟩)))) (hb hby d1_7) hr
    · show Q1 Z p1 v_CONVENTIONAL v_SIMPLE_INTEREST v_PAYMENT_SCHEDULE v_LEVEL_PRINCIPAL v_OTHER v_PAYMENT_PATTERN h0 n0 _ T3.heap _
      rw [e3]
      exact ⟨(by unfold f1; rw [if_pos hc2]), N0, rfl⟩
  ·  -- pc 1: not p1 = (0 : Int32)
    have pre4 : ∀ t, Steps p.tables e below (s₁.setTop (mkF m 10 #[.val (.int p1)] [(.int (1 : Int32)), (.int p1)])) t → Steps p.tables e below (s₁.setTop (entryFrame m #[(.int p1)] 1)) t := fun t k => pre1 t (by
      show Steps p.tables e below (s₁.setTop (mkF m 1 #[.val (.int p1)] [(.int p1)])) _
      refine XS.ifYes X0.here hx rfl (pc0 := 1) (pc' := 8) rfl (hb hby d1_1) rfl ((if0 _ _).trans (feq hc2).2) (by decide) (by decide) ?_
      show Steps p.tables e below (s₁.setTop (mkF m 8 #[.val (.int p1)] [])) _
      refine XS.iloadN X0.here hx rfl (hb hby d1_8) rfl ?_
      show Steps p.tables e below (s₁.setTop (mkF m 9 #[.val (.int p1)] [(.int p1)])) _
      refine XS.iconst X0.here hx rfl (hb hby d1_9) ?_
      exact k)
    by_cases hc5 : p1 = (1 : Int32)
    ·  -- pc 10: p1 = (1 : Int32)
      obtain ⟨T6, X6, e6, st6⟩ := getS2 X0 hx hZ hown (host := "") (Or.inl (hw _ (List.mem_of_getElem? (i := 22) rfl))) Via.refl e0 S_SIMPLE_INTEREST (g := (mkF m 13 #[.val (.int p1)] [])) rfl (hb hby d1_13)
      obtain ⟨fs, hr, hrun, hended, hW, hsame⟩ := X6.leave (v := some (.ref v_SIMPLE_INTEREST)) (fun h => by rw [Bd.returns] at h; cases h)
      refine ⟨_, _, pre4 _ ?_, hrun, hended, _, _, rfl, ?_, ⟨_, rfl⟩, hW, hsame.mono (by decide) (by decide)⟩
      · show Steps p.tables e below (s₁.setTop (mkF m 10 #[.val (.int p1)] [(.int (1 : Int32)), (.int p1)])) _
        refine XS.icmpNo X0.here hx rfl (hb hby d1_10) rfl (teq hc5).2 ?_
        show Steps p.tables e below (s₁.setTop (mkF m 13 #[.val (.int p1)] [])) _
        refine st6 _ ?_
        show Steps p.tables e below (T6.setTop (mkF m 16 #[.val (.int p1)] [(.ref v_SIMPLE_INTEREST)])) _
        exact retOut X6 hx (t := (.object "com/example/tenorcast/tenorcast/engine/AmortizationType")) Bd.returns rfl (Or.inr (Or.inr (Or.inr (Or.inr ⟨rfl, rfl, rfl⟩)))) (hb hby d1_16) hr
      · show Q1 Z p1 v_CONVENTIONAL v_SIMPLE_INTEREST v_PAYMENT_SCHEDULE v_LEVEL_PRINCIPAL v_OTHER v_PAYMENT_PATTERN h0 n0 _ T6.heap _
        rw [e6]
        exact ⟨(by unfold f1; rw [if_neg hc2, if_pos hc5]), N0, rfl⟩
    ·  -- pc 10: not p1 = (1 : Int32)
      have pre7 : ∀ t, Steps p.tables e below (s₁.setTop (mkF m 19 #[.val (.int p1)] [(.int (2 : Int32)), (.int p1)])) t → Steps p.tables e below (s₁.setTop (entryFrame m #[(.int p1)] 1)) t := fun t k => pre4 t (by
        show Steps p.tables e below (s₁.setTop (mkF m 10 #[.val (.int p1)] [(.int (1 : Int32)), (.int p1)])) _
        refine XS.icmpYes X0.here hx rfl (pc0 := 10) (pc' := 17) rfl (hb hby d1_10) rfl (feq hc5).2 (by decide) (by decide) ?_
        show Steps p.tables e below (s₁.setTop (mkF m 17 #[.val (.int p1)] [])) _
        refine XS.iloadN X0.here hx rfl (hb hby d1_17) rfl ?_
        show Steps p.tables e below (s₁.setTop (mkF m 18 #[.val (.int p1)] [(.int p1)])) _
        refine XS.iconst X0.here hx rfl (hb hby d1_18) ?_
        exact k)
      by_cases hc8 : p1 = (2 : Int32)
      ·  -- pc 19: p1 = (2 : Int32)
        obtain ⟨T9, X9, e9, st9⟩ := getS2 X0 hx hZ hown (host := "") (Or.inl (hw _ (List.mem_of_getElem? (i := 20) rfl))) Via.refl e0 S_PAYMENT_SCHEDULE (g := (mkF m 22 #[.val (.int p1)] [])) rfl (hb hby d1_22)
        obtain ⟨fs, hr, hrun, hended, hW, hsame⟩ := X9.leave (v := some (.ref v_PAYMENT_SCHEDULE)) (fun h => by rw [Bd.returns] at h; cases h)
        refine ⟨_, _, pre7 _ ?_, hrun, hended, _, _, rfl, ?_, ⟨_, rfl⟩, hW, hsame.mono (by decide) (by decide)⟩
        · show Steps p.tables e below (s₁.setTop (mkF m 19 #[.val (.int p1)] [(.int (2 : Int32)), (.int p1)])) _
          refine XS.icmpNo X0.here hx rfl (hb hby d1_19) rfl (teq hc8).2 ?_
          show Steps p.tables e below (s₁.setTop (mkF m 22 #[.val (.int p1)] [])) _
          refine st9 _ ?_
          show Steps p.tables e below (T9.setTop (mkF m 25 #[.val (.int p1)] [(.ref v_PAYMENT_SCHEDULE)])) _
          exact retOut X9 hx (t := (.object "com/example/tenorcast/tenorcast/engine/AmortizationType")) Bd.returns rfl (Or.inr (Or.inr (Or.inr (Or.inr ⟨rfl, rfl, rfl⟩)))) (hb hby d1_25) hr
        · show Q1 Z p1 v_CONVENTIONAL v_SIMPLE_INTEREST v_PAYMENT_SCHEDULE v_LEVEL_PRINCIPAL v_OTHER v_PAYMENT_PATTERN h0 n0 _ T9.heap _
          rw [e9]
          exact ⟨(by unfold f1; rw [if_neg hc2, if_neg hc5, if_pos hc8]), N0, rfl⟩
      ·  -- pc 19: not p1 = (2 : Int32)
        have pre10 : ∀ t, Steps p.tables e below (s₁.setTop (mkF m 28 #[.val (.int p1)] [(.int (3 : Int32)), (.int p1)])) t → Steps p.tables e below (s₁.setTop (entryFrame m #[(.int p1)] 1)) t := fun t k => pre7 t (by
          show Steps p.tables e below (s₁.setTop (mkF m 19 #[.val (.int p1)] [(.int (2 : Int32)), (.int p1)])) _
          refine XS.icmpYes X0.here hx rfl (pc0 := 19) (pc' := 26) rfl (hb hby d1_19) rfl (feq hc8).2 (by decide) (by decide) ?_
          show Steps p.tables e below (s₁.setTop (mkF m 26 #[.val (.int p1)] [])) _
          refine XS.iloadN X0.here hx rfl (hb hby d1_26) rfl ?_
          show Steps p.tables e below (s₁.setTop (mkF m 27 #[.val (.int p1)] [(.int p1)])) _
          refine XS.iconst X0.here hx rfl (hb hby d1_27) ?_
          exact k)
        by_cases hc11 : p1 = (3 : Int32)
        ·  -- pc 28: p1 = (3 : Int32)
          obtain ⟨T12, X12, e12, st12⟩ := getS2 X0 hx hZ hown (host := "") (Or.inl (hw _ (List.mem_of_getElem? (i := 19) rfl))) Via.refl e0 S_LEVEL_PRINCIPAL (g := (mkF m 31 #[.val (.int p1)] [])) rfl (hb hby d1_31)
          obtain ⟨fs, hr, hrun, hended, hW, hsame⟩ := X12.leave (v := some (.ref v_LEVEL_PRINCIPAL)) (fun h => by rw [Bd.returns] at h; cases h)
          refine ⟨_, _, pre10 _ ?_, hrun, hended, _, _, rfl, ?_, ⟨_, rfl⟩, hW, hsame.mono (by decide) (by decide)⟩
          · show Steps p.tables e below (s₁.setTop (mkF m 28 #[.val (.int p1)] [(.int (3 : Int32)), (.int p1)])) _
            refine XS.icmpNo X0.here hx rfl (hb hby d1_28) rfl (teq hc11).2 ?_
            show Steps p.tables e below (s₁.setTop (mkF m 31 #[.val (.int p1)] [])) _
            refine st12 _ ?_
            show Steps p.tables e below (T12.setTop (mkF m 34 #[.val (.int p1)] [(.ref v_LEVEL_PRINCIPAL)])) _
            exact retOut X12 hx (t := (.object "com/example/tenorcast/tenorcast/engine/AmortizationType")) Bd.returns rfl (Or.inr (Or.inr (Or.inr (Or.inr ⟨rfl, rfl, rfl⟩)))) (hb hby d1_34) hr
          · show Q1 Z p1 v_CONVENTIONAL v_SIMPLE_INTEREST v_PAYMENT_SCHEDULE v_LEVEL_PRINCIPAL v_OTHER v_PAYMENT_PATTERN h0 n0 _ T12.heap _
            rw [e12]
            exact ⟨(by unfold f1; rw [if_neg hc2, if_neg hc5, if_neg hc8, if_pos hc11]), N0, rfl⟩
        ·  -- pc 28: not p1 = (3 : Int32)
          have pre13 : ∀ t, Steps p.tables e below (s₁.setTop (mkF m 37 #[.val (.int p1)] [(.int (4 : Int32)), (.int p1)])) t → Steps p.tables e below (s₁.setTop (entryFrame m #[(.int p1)] 1)) t := fun t k => pre10 t (by
            show Steps p.tables e below (s₁.setTop (mkF m 28 #[.val (.int p1)] [(.int (3 : Int32)), (.int p1)])) _
            refine XS.icmpYes X0.here hx rfl (pc0 := 28) (pc' := 35) rfl (hb hby d1_28) rfl (feq hc11).2 (by decide) (by decide) ?_
            show Steps p.tables e below (s₁.setTop (mkF m 35 #[.val (.int p1)] [])) _
            refine XS.iloadN X0.here hx rfl (hb hby d1_35) rfl ?_
            show Steps p.tables e below (s₁.setTop (mkF m 36 #[.val (.int p1)] [(.int p1)])) _
            refine XS.iconst X0.here hx rfl (hb hby d1_36) ?_
            exact k)
          by_cases hc14 : p1 = (4 : Int32)
          ·  -- pc 37: p1 = (4 : Int32)
            obtain ⟨T15, X15, e15, st15⟩ := getS2 X0 hx hZ hown (host := "") (Or.inl (hw _ (List.mem_of_getElem? (i := 25) rfl))) Via.refl e0 S_OTHER (g := (mkF m 40 #[.val (.int p1)] [])) rfl (hb hby d1_40)
            obtain ⟨fs, hr, hrun, hended, hW, hsame⟩ := X15.leave (v := some (.ref v_OTHER)) (fun h => by rw [Bd.returns] at h; cases h)
            refine ⟨_, _, pre13 _ ?_, hrun, hended, _, _, rfl, ?_, ⟨_, rfl⟩, hW, hsame.mono (by decide) (by decide)⟩
            · show Steps p.tables e below (s₁.setTop (mkF m 37 #[.val (.int p1)] [(.int (4 : Int32)), (.int p1)])) _
              refine XS.icmpNo X0.here hx rfl (hb hby d1_37) rfl (teq hc14).2 ?_
              show Steps p.tables e below (s₁.setTop (mkF m 40 #[.val (.int p1)] [])) _
              refine st15 _ ?_
              show Steps p.tables e below (T15.setTop (mkF m 43 #[.val (.int p1)] [(.ref v_OTHER)])) _
              exact retOut X15 hx (t := (.object "com/example/tenorcast/tenorcast/engine/AmortizationType")) Bd.returns rfl (Or.inr (Or.inr (Or.inr (Or.inr ⟨rfl, rfl, rfl⟩)))) (hb hby d1_43) hr
            · show Q1 Z p1 v_CONVENTIONAL v_SIMPLE_INTEREST v_PAYMENT_SCHEDULE v_LEVEL_PRINCIPAL v_OTHER v_PAYMENT_PATTERN h0 n0 _ T15.heap _
              rw [e15]
              exact ⟨(by unfold f1; rw [if_neg hc2, if_neg hc5, if_neg hc8, if_neg hc11, if_pos hc14]), N0, rfl⟩
          ·  -- pc 37: not p1 = (4 : Int32)
            obtain ⟨T16, X16, e16, st16⟩ := getS2 X0 hx hZ hown (host := "") (Or.inl (hw _ (List.mem_of_getElem? (i := 23) rfl))) Via.refl e0 S_PAYMENT_PATTERN (g := (mkF m 44 #[.val (.int p1)] [])) rfl (hb hby d1_44)
            obtain ⟨fs, hr, hrun, hended, hW, hsame⟩ := X16.leave (v := some (.ref v_PAYMENT_PATTERN)) (fun h => by rw [Bd.returns] at h; cases h)
            refine ⟨_, _, pre13 _ ?_, hrun, hended, _, _, rfl, ?_, ⟨_, rfl⟩, hW, hsame.mono (by decide) (by decide)⟩
            · show Steps p.tables e below (s₁.setTop (mkF m 37 #[.val (.int p1)] [(.int (4 : Int32)), (.int p1)])) _
              refine XS.icmpYes X0.here hx rfl (pc0 := 37) (pc' := 44) rfl (hb hby d1_37) rfl (feq hc14).2 (by decide) (by decide) ?_
              show Steps p.tables e below (s₁.setTop (mkF m 44 #[.val (.int p1)] [])) _
              refine st16 _ ?_
              show Steps p.tables e below (T16.setTop (mkF m 47 #[.val (.int p1)] [(.ref v_PAYMENT_PATTERN)])) _
              exact retOut X16 hx (t := (.object "com/example/tenorcast/tenorcast/engine/AmortizationType")) Bd.returns rfl (Or.inr (Or.inr (Or.inr (Or.inr ⟨rfl, rfl, rfl⟩)))) (hb hby d1_47) hr
            · show Q1 Z p1 v_CONVENTIONAL v_SIMPLE_INTEREST v_PAYMENT_SCHEDULE v_LEVEL_PRINCIPAL v_OTHER v_PAYMENT_PATTERN h0 n0 _ T16.heap _
              rw [e16]
              exact ⟨(by unfold f1; rw [if_neg hc2, if_neg hc5, if_neg hc8, if_neg hc11, if_neg hc14]), N0, rfl⟩
theorem pn_27 : plainName "com/example/tenorcast/tenorcast/engine/AmortizationType" = true := by first | (simp [plainName, overriddenIn]; done) | decide +kernel
theorem d2_0 : decode prog_13_method_7_code 0 = .ok (.aload_n 0, 1) := by decide +kernel
theorem d2_1 : decode prog_13_method_7_code 1 = .ok (.getstatic 7, 3) := by decide +kernel
theorem d2_4 : decode prog_13_method_7_code 4 = .ok (.if_acmp .eq 17, 3) := by decide +kernel
theorem d2_21 : decode prog_13_method_7_code 21 = .ok (.iconst 1, 1) := by decide +kernel
theorem d2_22 : decode prog_13_method_7_code 22 = .ok (.goto 4, 3) := by decide +kernel
theorem d2_26 : decode prog_13_method_7_code 26 = .ok (.ireturn, 1) := by decide +kernel
theorem d2_7 : decode prog_13_method_7_code 7 = .ok (.aload_n 0, 1) := by decide +kernel
theorem d2_8 : decode prog_13_method_7_code 8 = .ok (.getstatic 13, 3) := by decide +kernel
theorem d2_11 : decode prog_13_method_7_code 11 = .ok (.if_acmp .eq 10, 3) := by decide +kernel
theorem d2_14 : decode prog_13_method_7_code 14 = .ok (.aload_n 0, 1) := by decide +kernel
theorem d2_15 : decode prog_13_method_7_code 15 = .ok (.getstatic 16, 3) := by decide +kernel
theorem d2_18 : decode prog_13_method_7_code 18 = .ok (.if_acmp .ne 7, 3) := by decide +kernel
theorem d2_25 : decode prog_13_method_7_code 25 = .ok (.iconst 0, 1) := by decide +kernel
theorem ef_2 (m : MethodId) (x0 : Addr) : entryFrame m #[(.ref x0)] 1 = mkF m 0 #[.val (.ref x0)] [] := by first | (simp [entryFrame, mkF, argsToLocals, Value.category]; done) | rfl
def f2 (a1 : Addr) (v_SIMPLE_INTEREST : Addr) (v_LEVEL_PRINCIPAL : Addr) (v_OTHER : Addr) : Int32 := if a1 = v_SIMPLE_INTEREST then (1 : Int32) else (if a1 = v_LEVEL_PRINCIPAL then (1 : Int32) else (if a1 = v_OTHER then (1 : Int32) else (0 : Int32)))
def Q2 (Z : State) (a1 : Addr) (v_SIMPLE_INTEREST : Addr) (v_LEVEL_PRINCIPAL : Addr) (v_OTHER : Addr) (h0 : Heap) (n0 : Nat) (v : Option Value) (h : Heap) (L : List Loc) : Prop := v = some (.int (f2 a1 v_SIMPLE_INTEREST v_LEVEL_PRINCIPAL v_OTHER)) ∧ Fr n0 L ∧ h = h0
set_option maxRecDepth 65536 in
set_option maxHeartbeats 40000000 in
theorem rm2 (l : Launch) (Z : State) (a0 : Array Value) (hw : ∀ d ∈ tables_1, d.before a0 Z = true) (ws : List Jvm.Cond) (a1 : Addr) (v_SIMPLE_INTEREST : Addr) (v_LEVEL_PRINCIPAL : Addr) (v_OTHER : Addr) (h0 : Heap) (n0 : Nat) (Z0 : n0 ≤ h0.size) (S_SIMPLE_INTEREST : Sta Z h0 "com/example/tenorcast/tenorcast/engine/AmortizationType" "SIMPLE_INTEREST" "Lcom/example/tenorcast/tenorcast/engine/AmortizationType;" (.ref v_SIMPLE_INTEREST)) (S_LEVEL_PRINCIPAL : Sta Z h0 "com/example/tenorcast/tenorcast/engine/AmortizationType" "LEVEL_PRINCIPAL" "Lcom/example/tenorcast/tenorcast/engine/AmortizationType;" (.ref v_LEVEL_PRINCIPAL)) (S_OTHER : Sta Z h0 "com/example/tenorcast/tenorcast/engine/AmortizationType" "OTHER" "Lcom/example/tenorcast/tenorcast/engine/AmortizationType;" (.ref v_OTHER)) :
    MetFree l (⟨"com/example/tenorcast/tenorcast/engine/AmortizationType", "allowsInterestInAdvance", "()Z"⟩ : MethodName) (head1 (Jvm.Cond.code (⟨"com/example/tenorcast/tenorcast/engine/AmortizationType", "allowsInterestInAdvance", "()Z"⟩ : MethodName) prog_13_method_7_code 1 (some .boolean) :: ws) ({ frames := 0, cells := 0, slots := 0, locals := 0 } : Room)) (fun a U => a = #[(.ref a1)] ∧ Z.Warmed39 U.vm ∧ U.heap = h0) (fun _ _ _ _ _ => True) (fun _ U o U' => ∃ v L, o = .returned v ∧ Q2 Z a1 v_SIMPLE_INTEREST v_LEVEL_PRINCIPAL v_OTHER h0 n0 v U'.heap L ∧ FrameEnd U o U' L ({ frames := 0, cells := 0, slots := 0, locals := 0 } : Room).cells ({ frames := 0, cells := 0, slots := 0, locals := 0 } : Room).slots) := by
  refine MetFree.of_bodySF (plainFor_of_name pn_27) hisR ?_
  intro p e s m args below meth c s₁ Bd hml0 hP hK
  obtain ⟨rfl, hZ, hh⟩ := hP
  have hx := Bd.exec
  have hby := Bd.bytes
  have hml : c.maxLocals = 1 := hml0
  have hown : s.vm.findClass "com/example/tenorcast/tenorcast/engine/AmortizationType" = some m.cls := findClass_of_methodNamed Bd.named
  have hnm := (name_of_methodNamed Bd.named Bd.method).1
  have X0 : Stand p l e ({ frames := 0, cells := 0, slots := 0, locals := 0 } : Room) s m #[(.ref a1)] below meth c s₁ [] 0 0 := Stand.of_body Bd
  have e0 : s₁.heap = h0 := by rw [← hh, Bd.state]; rfl
  have N0 := Fr.nil n0
  have pre0 : ∀ t, Steps p.tables e below (s₁.setTop (mkF m 0 #[.val (.ref a1)] [])) t → Steps p.tables e below (s₁.setTop (entryFrame m #[(.ref a1)] 1)) t := fun t k => castTop (ef_2 m a1) k
  obtain ⟨T1, X1, e1, st1⟩ := getS2 X0 hx hZ hown (host := "") (Or.inl (hw _ (List.mem_of_getElem? (i := 13) rfl))) Via.refl e0 S_SIMPLE_INTEREST (g := (mkF m 1 #[.val (.ref a1)] [(.ref a1)])) rfl (hb hby d2_1)
  have pre2 : ∀ t, Steps p.tables e below (T1.setTop (mkF m 4 #[.val (.ref a1)] [(.ref v_SIMPLE_INTEREST), (.ref a1)])) t → Steps p.tables e below (s₁.setTop (entryFrame m #[(.ref a1)] 1)) t := fun t k => pre0 t (by
    show Steps p.tables e below (s₁.setTop (mkF m 0 #[.val (.ref a1)] [])) _
    refine XS.aloadN X0.here hx rfl (hb hby d2_0) rfl rfl ?_
    show Steps p.tables e below (s₁.setTop (mkF m 1 #[.val (.ref a1)] [(.ref a1)])) _
    refine st1 _ ?_
    exact k)
  by_cases hc3 : a1 = v_SIMPLE_INTEREST
  ·  -- pc 4: a1 = v_SIMPLE_INTEREST
    obtain ⟨fs, hr, hrun, hended, hW, hsame⟩ := X1.leave (v := some (.int (1 : Int32))) (fun h => by rw [Bd.returns] at h; cases h)
    refine ⟨_, _, pre2 _ ?_, hrun, hended, _, _, rfl, ?_, ⟨_, rfl⟩, hW, hsame.mono (by decide) (by decide)⟩
    · show Steps p.tables e below (T1.setTop (mkF m 4 #[.val (.ref a1)] [(.ref v_SIMPLE_INTEREST), (.ref a1)])) _
      refine Jvm.RoadKit.acmp (g := (mkF m 4 #[.val (.ref a1)] [(.ref v_SIMPLE_INTEREST), (.ref a1)])) X1 hx rfl rfl rfl (pc0 := 4) (pc' := 21) (same := true) rfl (hb hby d2_4) rfl (decide_eq_true (congrArg Value.ref hc3)) (by decide) (by decide) ?_
      show Steps p.tables e below (T1.setTop (mkF m 21 #[.val (.ref a1)] [])) _
      refine XS.iconst X1.here hx rfl (hb hby d2_21) ?_
      show Steps p.tables e below (T1.setTop (mkF m 22 #[.val (.ref a1)] [(.int (1 : Int32))])) _
      refine XS.goto X1.here hx rfl (pc0 := 22) (pc' := 26) rfl (hb hby d2_22) (by decide) (by decide) ?_
      show Steps p.tables e below (T1.setTop (mkF m 26 #[.val (.ref a1)] [(.int (1 : Int32))])) _
      exact retN X1 hx (t := .boolean) Bd.returns (by simp) (hb hby d2_26) hr
    · show Q2 Z a1 v_SIMPLE_INTEREST v_LEVEL_PRINCIPAL v_OTHER h0 n0 _ T1.heap _
      rw [e1]
      exact ⟨(by unfold f2; rw [if_pos hc3]), N0, rfl⟩
  ·  -- pc 4: not a1 = v_SIMPLE_INTEREST
    obtain ⟨T4, X4, e4, st4⟩ := getS2 X1 hx hZ hown (host := "") (Or.inl (hw _ (List.mem_of_getElem? (i := 15) rfl))) Via.refl e1 S_LEVEL_PRINCIPAL (g := (mkF m 8 #[.val (.ref a1)] [(.ref a1)])) rfl (hb hby d2_8)
    have pre5 : ∀ t, Steps p.tables e below (T4.setTop (mkF m 11 #[.val (.ref a1)] [(.ref v_LEVEL_PRINCIPAL), (.ref a1)])) t → Steps p.tables e below (s₁.setTop (entryFrame m #[(.ref a1)] 1)) t := fun t k => pre2 t (by
      show Steps p.tables e below (T1.setTop (mkF m 4 #[.val (.ref a1)] [(.ref v_SIMPLE_INTEREST), (.ref a1)])) _
      refine Jvm.RoadKit.acmp (g := (mkF m 4 #[.val (.ref a1)] [(.ref v_SIMPLE_INTEREST), (.ref a1)])) X1 hx rfl rfl rfl (pc0 := 4) (pc' := 7) (same := false) rfl (hb hby d2_4) rfl (decide_eq_false fun q => hc3 (Value.ref.inj q)) (by decide) (by decide) ?_
      show Steps p.tables e below (T1.setTop (mkF m 7 #[.val (.ref a1)] [])) _
      refine XS.aloadN X1.here hx rfl (hb hby d2_7) rfl rfl ?_
      show Steps p.tables e below (T1.setTop (mkF m 8 #[.val (.ref a1)] [(.ref a1)])) _
      refine st4 _ ?_
      exact k)
    by_cases hc6 : a1 = v_LEVEL_PRINCIPAL
    ·  -- pc 11: a1 = v_LEVEL_PRINCIPAL
      obtain ⟨fs, hr, hrun, hended, hW, hsame⟩ := X4.leave (v := some (.int (1 : Int32))) (fun h => by rw [Bd.returns] at h; cases h)
      refine ⟨_, _, pre5 _ ?_, hrun, hended, _, _, rfl, ?_, ⟨_, rfl⟩, hW, hsame.mono (by decide) (by decide)⟩
      · show Steps p.tables e below (T4.setTop (mkF m 11 #[.val (.ref a1)] [(.ref v_LEVEL_PRINCIPAL), (.ref a1)])) _
        refine Jvm.RoadKit.acmp (g := (mkF m 11 #[.val (.ref a1)] [(.ref v_LEVEL_PRINCIPAL), (.ref a1)])) X4 hx rfl rfl rfl (pc0 := 11) (pc' := 21) (same := true) rfl (hb hby d2_11) rfl (decide_eq_true (congrArg Value.ref hc6)) (by decide) (by decide) ?_
        show Steps p.tables e below (T4.setTop (mkF m 21 #[.val (.ref a1)] [])) _
        refine XS.iconst X4.here hx rfl (hb hby d2_21) ?_
        show Steps p.tables e below (T4.setTop (mkF m 22 #[.val (.ref a1)] [(.int (1 : Int32))])) _
        refine XS.goto X4.here hx rfl (pc0 := 22) (pc' := 26) rfl (hb hby d2_22) (by decide) (by decide) ?_
        show Steps p.tables e below (T4.setTop (mkF m 26 #[.val (.ref a1)] [(.int (1 : Int32))])) _
        exact retN X4 hx (t := .boolean) Bd.returns (by simp) (hb hby d2_26) hr
      · show Q2 Z a1 v_SIMPLE_INTEREST v_LEVEL_PRINCIPAL v_OTHER h0 n0 _ T4.heap _
        rw [e4]
        exact ⟨(by unfold f2; rw [if_neg hc3, if_pos hc6]), N0, rfl⟩
    ·  -- pc 11: not a1 = v_LEVEL_PRINCIPAL
      obtain ⟨T7, X7, e7, st7⟩ := getS2 X4 hx hZ hown (host := "") (Or.inl (hw _ (List.mem_of_getElem? (i := 17) rfl))) Via.refl e4 S_OTHER (g := (mkF m 15 #[.val (.ref a1)] [(.ref a1)])) rfl (hb hby d2_15)
      have pre8 : ∀ t, Steps p.tables e below (T7.setTop (mkF m 18 #[.val (.ref a1)] [(.ref v_OTHER), (.ref a1)])) t → Steps p.tables e below (s₁.setTop (entryFrame m #[(.ref a1)] 1)) t := fun t k => pre5 t (by
        show Steps p.tables e below (T4.setTop (mkF m 11 #[.val (.ref a1)] [(.ref v_LEVEL_PRINCIPAL), (.ref a1)])) _
        refine Jvm.RoadKit.acmp (g := (mkF m 11 #[.val (.ref a1)] [(.ref v_LEVEL_PRINCIPAL), (.ref a1)])) X4 hx rfl rfl rfl (pc0 := 11) (pc' := 14) (same := false) rfl (hb hby d2_11) rfl (decide_eq_false fun q => hc6 (Value.ref.inj q)) (by decide) (by decide) ?_
        show Steps p.tables e below (T4.setTop (mkF m 14 #[.val (.ref a1)] [])) _
        refine XS.aloadN X4.here hx rfl (hb hby d2_14) rfl rfl ?_
        show Steps p.tables e below (T4.setTop (mkF m 15 #[.val (.ref a1)] [(.ref a1)])) _
        refine st7 _ ?_
        exact k)
      by_cases hc9 : a1 = v_OTHER
      ·  -- pc 18: a1 = v_OTHER
        obtain ⟨fs, hr, hrun, hended, hW, hsame⟩ := X7.leave (v := some (.int (1 : Int32))) (fun h => by rw [Bd.returns] at h; cases h)
        refine ⟨_, _, pre8 _ ?_, hrun, hended, _, _, rfl, ?_, ⟨_, rfl⟩, hW, hsame.mono (by decide) (by decide)⟩
        · show Steps p.tables e below (T7.setTop (mkF m 18 #[.val (.ref a1)] [(.ref v_OTHER), (.ref a1)])) _
          refine Jvm.RoadKit.acmp (g := (mkF m 18 #[.val (.ref a1)] [(.ref v_OTHER), (.ref a1)])) X7 hx rfl rfl rfl (pc0 := 18) (pc' := 21) (same := true) rfl (hb hby d2_18) rfl (decide_eq_true (congrArg Value.ref hc9)) (by decide) (by decide) ?_
          show Steps p.tables e below (T7.setTop (mkF m 21 #[.val (.ref a1)] [])) _
          refine XS.iconst X7.here hx rfl (hb hby d2_21) ?_
          show Steps p.tables e below (T7.setTop (mkF m 22 #[.val (.ref a1)] [(.int (1 : Int32))])) _
          refine XS.goto X7.here hx rfl (pc0 := 22) (pc' := 26) rfl (hb hby d2_22) (by decide) (by decide) ?_
          show Steps p.tables e below (T7.setTop (mkF m 26 #[.val (.ref a1)] [(.int (1 : Int32))])) _
          exact retN X7 hx (t := .boolean) Bd.returns (by simp) (hb hby d2_26) hr
        · show Q2 Z a1 v_SIMPLE_INTEREST v_LEVEL_PRINCIPAL v_OTHER h0 n0 _ T7.heap _
          rw [e7]
          exact ⟨(by unfold f2; rw [if_neg hc3, if_neg hc6, if_pos hc9]), N0, rfl⟩
      ·  -- pc 18: not a1 = v_OTHER
        obtain ⟨fs, hr, hrun, hended, hW, hsame⟩ := X7.leave (v := some (.int (0 : Int32))) (fun h => by rw [Bd.returns] at h; cases h)
        refine ⟨_, _, pre8 _ ?_, hrun, hended, _, _, rfl, ?_, ⟨_, rfl⟩, hW, hsame.mono (by decide) (by decide)⟩
        · show Steps p.tables e below (T7.setTop (mkF m 18 #[.val (.ref a1)] [(.ref v_OTHER), (.ref a1)])) _
          refine Jvm.RoadKit.acmp (g := (mkF m 18 #[.val (.ref a1)] [(.ref v_OTHER), (.ref a1)])) X7 hx rfl rfl rfl (pc0 := 18) (pc' := 25) (same := false) rfl (hb hby d2_18) rfl (decide_eq_false fun q => hc9 (Value.ref.inj q)) (by decide) (by decide) ?_
          show Steps p.tables e below (T7.setTop (mkF m 25 #[.val (.ref a1)] [])) _
          refine XS.iconst X7.here hx rfl (hb hby d2_25) ?_
          show Steps p.tables e below (T7.setTop (mkF m 26 #[.val (.ref a1)] [(.int (0 : Int32))])) _
          exact retN X7 hx (t := .boolean) Bd.returns (by simp) (hb hby d2_26) hr
        · show Q2 Z a1 v_SIMPLE_INTEREST v_LEVEL_PRINCIPAL v_OTHER h0 n0 _ T7.heap _
          rw [e7]
          exact ⟨(by unfold f2; rw [if_neg hc3, if_neg hc6, if_neg hc9]), N0, rfl⟩
theorem own_exa {Z : State} {h : Heap} {K : String} (i : Int32) {a b c d e f : Addr} (ha : Exa Z h a K) (hb : Exa Z h b K) (hc : Exa Z h c K) (hd : Exa Z h d K) (he : Exa Z h e K) (hf : Exa Z h f K) : Exa Z h (f1 i a b c d e f) K := by
  unfold f1
  repeat' split
  all_goals assumption
theorem pd_41 : parseMethodDescriptor "(I)Lcom/example/tenorcast/tenorcast/engine/AmortizationType;" = some ⟨[.int], some (.object "com/example/tenorcast/tenorcast/engine/AmortizationType")⟩ := by decide +kernel
theorem pd_42 : parseMethodDescriptor "()Z" = some ⟨[], some .boolean⟩ := by decide +kernel
theorem ef_0 (m : MethodId) (x0 : Int32) : entryFrame m #[(.int x0)] maxLocals = mkF m 0 #[.val (.int x0), .unset, .unset, .unset] [] := by first | (simp [entryFrame, mkF, argsToLocals, Value.category, maxLocals]; done) | rfl
def f0 (p1 : Int32) (w_CONVENTIONAL : Addr) (w_SIMPLE_INTEREST : Addr) (w_LEVEL_PRINCIPAL : Addr) (w_OTHER : Addr) (w_PAYMENT_SCHEDULE : Addr) (w_PAYMENT_PATTERN : Addr) : Int32 := if ((p1 &&& (2147483647 : Int32)) % (6 : Int32)) = (1 : Int32) then (if (f2 (f1 ((p1 &&& (2147483647 : Int32)) % (6 : Int32)) w_CONVENTIONAL w_SIMPLE_INTEREST w_PAYMENT_SCHEDULE w_LEVEL_PRINCIPAL w_OTHER w_PAYMENT_PATTERN) w_SIMPLE_INTEREST w_LEVEL_PRINCIPAL w_OTHER) = (1 : Int32) then (1 : Int32) else (0 : Int32)) else (if ((p1 &&& (2147483647 : Int32)) % (6 : Int32)) = (3 : Int32) then (if (f2 (f1 ((p1 &&& (2147483647 : Int32)) % (6 : Int32)) w_CONVENTIONAL w_SIMPLE_INTEREST w_PAYMENT_SCHEDULE w_LEVEL_PRINCIPAL w_OTHER w_PAYMENT_PATTERN) w_SIMPLE_INTEREST w_LEVEL_PRINCIPAL w_OTHER) = (1 : Int32) then (1 : Int32) else (0 : Int32)) else (if ((p1 &&& (2147483647 : Int32)) % (6 : Int32)) = (4 : Int32) then (if (f2 (f1 ((p1 &&& (2147483647 : Int32)) % (6 : Int32)) w_CONVENTIONAL w_SIMPLE_INTEREST w_PAYMENT_SCHEDULE w_LEVEL_PRINCIPAL w_OTHER w_PAYMENT_PATTERN) w_SIMPLE_INTEREST w_LEVEL_PRINCIPAL w_OTHER) = (1 : Int32) then (1 : Int32) else (0 : Int32)) else (if (f2 (f1 ((p1 &&& (2147483647 : Int32)) % (6 : Int32)) w_CONVENTIONAL w_SIMPLE_INTEREST w_PAYMENT_SCHEDULE w_LEVEL_PRINCIPAL w_OTHER w_PAYMENT_PATTERN) w_SIMPLE_INTEREST w_LEVEL_PRINCIPAL w_OTHER) = (0 : Int32) then (1 : Int32) else (0 : Int32))))
def Q0 (Z : State) (p1 : Int32) (w_CONVENTIONAL : Addr) (w_SIMPLE_INTEREST : Addr) (w_LEVEL_PRINCIPAL : Addr) (w_OTHER : Addr) (w_PAYMENT_SCHEDULE : Addr) (w_PAYMENT_PATTERN : Addr) (h0 : Heap) (n0 : Nat) (v : Option Value) (h : Heap) (L : List Loc) : Prop := v = some (.int (f0 p1 w_CONVENTIONAL w_SIMPLE_INTEREST w_LEVEL_PRINCIPAL w_OTHER w_PAYMENT_SCHEDULE w_PAYMENT_PATTERN)) ∧ Fr n0 L
set_option maxRecDepth 65536 in
set_option maxHeartbeats 40000000 in
theorem rm0 (l : Launch) (Z : State) (a0 : Array Value) (hw : ∀ d ∈ tables_1, d.before a0 Z = true) (ws : List Jvm.Cond) (p1 : Int32) (w_CONVENTIONAL : Addr) (w_SIMPLE_INTEREST : Addr) (w_LEVEL_PRINCIPAL : Addr) (w_OTHER : Addr) (w_PAYMENT_SCHEDULE : Addr) (w_PAYMENT_PATTERN : Addr) (h0 : Heap) (n0 : Nat) (Z0 : n0 ≤ h0.size) (O0 : Old Z n0 h0) (S_CONVENTIONAL : Sta Z Z.heap "com/example/tenorcast/tenorcast/engine/AmortizationType" "CONVENTIONAL" "Lcom/example/tenorcast/tenorcast/engine/AmortizationType;" (.ref w_CONVENTIONAL)) (S_SIMPLE_INTEREST : Sta Z Z.heap "com/example/tenorcast/tenorcast/engine/AmortizationType" "SIMPLE_INTEREST" "Lcom/example/tenorcast/tenorcast/engine/AmortizationType;" (.ref w_SIMPLE_INTEREST)) (S_LEVEL_PRINCIPAL : Sta Z Z.heap "com/example/tenorcast/tenorcast/engine/AmortizationType" "LEVEL_PRINCIPAL" "Lcom/example/tenorcast/tenorcast/engine/AmortizationType;" (.ref w_LEVEL_PRINCIPAL)) (S_OTHER : Sta Z Z.heap "com/example/tenorcast/tenorcast/engine/AmortizationType" "OTHER" "Lcom/example/tenorcast/tenorcast/engine/AmortizationType;" (.ref w_OTHER)) (S_PAYMENT_SCHEDULE : Sta Z Z.heap "com/example/tenorcast/tenorcast/engine/AmortizationType" "PAYMENT_SCHEDULE" "Lcom/example/tenorcast/tenorcast/engine/AmortizationType;" (.ref w_PAYMENT_SCHEDULE)) (S_PAYMENT_PATTERN : Sta Z Z.heap "com/example/tenorcast/tenorcast/engine/AmortizationType" "PAYMENT_PATTERN" "Lcom/example/tenorcast/tenorcast/engine/AmortizationType;" (.ref w_PAYMENT_PATTERN)) (E_w_CONVENTIONAL : Exa Z Z.heap w_CONVENTIONAL "com/example/tenorcast/tenorcast/engine/AmortizationType") (E_w_SIMPLE_INTEREST : Exa Z Z.heap w_SIMPLE_INTEREST "com/example/tenorcast/tenorcast/engine/AmortizationType") (E_w_LEVEL_PRINCIPAL : Exa Z Z.heap w_LEVEL_PRINCIPAL "com/example/tenorcast/tenorcast/engine/AmortizationType") (E_w_OTHER : Exa Z Z.heap w_OTHER "com/example/tenorcast/tenorcast/engine/AmortizationType") (E_w_PAYMENT_SCHEDULE : Exa Z Z.heap w_PAYMENT_SCHEDULE "com/example/tenorcast/tenorcast/engine/AmortizationType") (E_w_PAYMENT_PATTERN : Exa Z Z.heap w_PAYMENT_PATTERN "com/example/tenorcast/tenorcast/engine/AmortizationType") (F_ordinal_w_CONVENTIONAL : Fld Z Z.heap w_CONVENTIONAL "java/lang/Enum" "ordinal" "I" (.int (0 : Int32))) (F_ordinal_w_SIMPLE_INTEREST : Fld Z Z.heap w_SIMPLE_INTEREST "java/lang/Enum" "ordinal" "I" (.int (1 : Int32))) (F_ordinal_w_LEVEL_PRINCIPAL : Fld Z Z.heap w_LEVEL_PRINCIPAL "java/lang/Enum" "ordinal" "I" (.int (3 : Int32))) (F_ordinal_w_OTHER : Fld Z Z.heap w_OTHER "java/lang/Enum" "ordinal" "I" (.int (4 : Int32))) (F_ordinal_w_PAYMENT_SCHEDULE : Fld Z Z.heap w_PAYMENT_SCHEDULE "java/lang/Enum" "ordinal" "I" (.int (2 : Int32))) (F_ordinal_w_PAYMENT_PATTERN : Fld Z Z.heap w_PAYMENT_PATTERN "java/lang/Enum" "ordinal" "I" (.int (5 : Int32))) (ne_w_CONVENTIONAL_w_SIMPLE_INTEREST : w_CONVENTIONAL ≠ w_SIMPLE_INTEREST) (ne_w_PAYMENT_SCHEDULE_w_SIMPLE_INTEREST : w_PAYMENT_SCHEDULE ≠ w_SIMPLE_INTEREST) (ne_w_LEVEL_PRINCIPAL_w_SIMPLE_INTEREST : w_LEVEL_PRINCIPAL ≠ w_SIMPLE_INTEREST) (ne_w_OTHER_w_SIMPLE_INTEREST : w_OTHER ≠ w_SIMPLE_INTEREST) (ne_w_PAYMENT_PATTERN_w_SIMPLE_INTEREST : w_PAYMENT_PATTERN ≠ w_SIMPLE_INTEREST) (ne_w_CONVENTIONAL_w_LEVEL_PRINCIPAL : w_CONVENTIONAL ≠ w_LEVEL_PRINCIPAL) (ne_w_PAYMENT_SCHEDULE_w_LEVEL_PRINCIPAL : w_PAYMENT_SCHEDULE ≠ w_LEVEL_PRINCIPAL) (ne_w_OTHER_w_LEVEL_PRINCIPAL : w_OTHER ≠ w_LEVEL_PRINCIPAL) (ne_w_PAYMENT_PATTERN_w_LEVEL_PRINCIPAL : w_PAYMENT_PATTERN ≠ w_LEVEL_PRINCIPAL) (ne_w_CONVENTIONAL_w_OTHER : w_CONVENTIONAL ≠ w_OTHER) (ne_w_PAYMENT_SCHEDULE_w_OTHER : w_PAYMENT_SCHEDULE ≠ w_OTHER) (ne_w_PAYMENT_PATTERN_w_OTHER : w_PAYMENT_PATTERN ≠ w_OTHER) :
    MetFree l x (head1 (Jvm.Cond.code x code maxLocals ret :: ws) room_1) (fun a U => a = #[(.int p1)] ∧ Z.Warmed39 U.vm ∧ U.heap = h0) (fun _ _ _ _ _ => True) (fun _ U o U' => ∃ v L, o = .returned v ∧ Q0 Z p1 w_CONVENTIONAL w_SIMPLE_INTEREST w_LEVEL_PRINCIPAL w_OTHER w_PAYMENT_SCHEDULE w_PAYMENT_PATTERN h0 n0 v U'.heap L ∧ FrameEnd U o U' L room_1.cells room_1.slots) := by
  refine MetFree.of_bodySF (plainFor_of_name pn_0) hisR ?_
  intro p e s m args below meth c s₁ Bd hml0 hP hK
  obtain ⟨rfl, hZ, hh⟩ := hP
  have hx := Bd.exec
  have hby := Bd.bytes
  have hml : c.maxLocals = 4 := hml0
  have hown : s.vm.findClass "com/example/tenorcast/tenorcast/engine/AmortizationTypeAllowsInterestInAdvancePinLaw" = some m.cls := findClass_of_methodNamed Bd.named
  have hnm := (name_of_methodNamed Bd.named Bd.method).1
  have X0 : Stand p l e room_1 s m #[(.int p1)] below meth c s₁ [] 0 0 := Stand.of_body Bd
  have e0 : s₁.heap = h0 := by rw [← hh, Bd.state]; rfl
  have N0 := Fr.nil n0
  have pre0 : ∀ t, Steps p.tables e below (s₁.setTop (mkF m 0 #[.val (.int p1), .unset, .unset, .unset] [])) t → Steps p.tables e below (s₁.setTop (entryFrame m #[(.int p1)] maxLocals)) t := fun t k => castTop (ef_0 m p1) k
  -- pc 9: AmortizationTypeAllowsInterestInAdvancePinLaw.pick by rm1
  obtain ⟨_, _, ⟨T1, L1, k1, n1⟩, -, X1, ⟨Lc1, hQ1, l1, y1, z1⟩, st1⟩ := Jvm.LawKit.callS X0 hx (y := (⟨"com/example/tenorcast/tenorcast/engine/AmortizationTypeAllowsInterestInAdvancePinLaw", "pick", "(I)Lcom/example/tenorcast/tenorcast/engine/AmortizationType;"⟩ : MethodName)) hown (mvT hZ (hw _ (List.mem_of_getElem? (i := 1) rfl))) (mvT hZ (hw _ (List.mem_of_getElem? (i := 2) rfl))) (mvT hZ (hw _ (List.mem_of_getElem? (i := 3) rfl))) (mvT hZ (hw _ (List.mem_of_getElem? (i := 4) rfl))) (by decide) (backOf (W := 0) (rm1 l Z a0 hw [] ((p1 &&& (2147483647 : Int32)) % (6 : Int32)) w_CONVENTIONAL w_SIMPLE_INTEREST w_PAYMENT_SCHEDULE w_LEVEL_PRINCIPAL w_OTHER w_PAYMENT_PATTERN h0 n0 Z0 (S_CONVENTIONAL.ext O0.2) (S_SIMPLE_INTEREST.ext O0.2) (S_PAYMENT_SCHEDULE.ext O0.2) (S_LEVEL_PRINCIPAL.ext O0.2) (S_OTHER.ext O0.2) (S_PAYMENT_PATTERN.ext O0.2)) hZ (hw _ (List.mem_of_getElem? (i := 4) rfl)) (hw _ (List.mem_of_getElem? (i := 3) rfl)) (by decide) (by decide)) (g := (mkF m 9 #[.val (.int p1), .val (.int ((p1 &&& (2147483647 : Int32)) % (6 : Int32))), .unset, .unset] [(.int ((p1 &&& (2147483647 : Int32)) % (6 : Int32)))])) rfl (by rw [hml]; rfl) (argsL := [(.int ((p1 &&& (2147483647 : Int32)) % (6 : Int32)))]) (rest := []) (lenOf pd_41 rfl) rfl (by show 2 * 0 + _ ≤ _; exact Nat.le_of_eq rfl) (hb hby at_9) (fun _ _ => ⟨rfl, e0, (by decide : 0 + 0 ≤ _), (by decide : 0 + 0 ≤ _)⟩)
  dsimp only [Pt.U, Pt.locs, Pt.cells, Pt.slots] at X1 l1 y1 z1 st1 hQ1
  subst l1 y1 z1
  obtain ⟨rfl, N1q, e1⟩ := hQ1
  have N2 := Fr.app N0 N1q
  have ee3 : Exa Z h0 (f1 ((p1 &&& (2147483647 : Int32)) % (6 : Int32)) w_CONVENTIONAL w_SIMPLE_INTEREST w_PAYMENT_SCHEDULE w_LEVEL_PRINCIPAL w_OTHER w_PAYMENT_PATTERN) "com/example/tenorcast/tenorcast/engine/AmortizationType" := own_exa _ (E_w_CONVENTIONAL.ext O0.2) (E_w_SIMPLE_INTEREST.ext O0.2) (E_w_PAYMENT_SCHEDULE.ext O0.2) (E_w_LEVEL_PRINCIPAL.ext O0.2) (E_w_OTHER.ext O0.2) (E_w_PAYMENT_PATTERN.ext O0.2)
  have pre4 : ∀ t, Steps p.tables e below (T1.setTop (mkF m 15 #[.val (.int p1), .val (.int ((p1 &&& (2147483647 : Int32)) % (6 : Int32))), .val (.ref (f1 ((p1 &&& (2147483647 : Int32)) % (6 : Int32)) w_CONVENTIONAL w_SIMPLE_INTEREST w_PAYMENT_SCHEDULE w_LEVEL_PRINCIPAL w_OTHER w_PAYMENT_PATTERN)), .unset] [(.int (1 : Int32)), (.int ((p1 &&& (2147483647 : Int32)) % (6 : Int32)))])) t → Steps p.tables e below (s₁.setTop (entryFrame m #[(.int p1)] maxLocals)) t := fun t k => pre0 t (by
    show Steps p.tables e below (s₁.setTop (mkF m 0 #[.val (.int p1), .unset, .unset, .unset] [])) _
    refine XS.iloadN X0.here hx rfl (hb hby at_0) rfl ?_
    show Steps p.tables e below (s₁.setTop (mkF m 1 #[.val (.int p1), .unset, .unset, .unset] [(.int p1)])) _
    refine X0.ldcInt hx hown (mvT hZ (hw _ (List.mem_of_getElem? (i := 0) rfl))) (g := (mkF m 1 #[.val (.int p1), .unset, .unset, .unset] [(.int p1)])) rfl (hb hby at_1) _ ?_
    show Steps p.tables e below (s₁.setTop (mkF m 3 #[.val (.int p1), .unset, .unset, .unset] [(.int (2147483647 : Int32)), (.int p1)])) _
    refine XS.iand X0.here hx rfl (hb hby at_3) rfl ?_
    show Steps p.tables e below (s₁.setTop (mkF m 4 #[.val (.int p1), .unset, .unset, .unset] [(.int (p1 &&& (2147483647 : Int32)))])) _
    refine XS.bipush X0.here hx rfl (hb hby at_4) ?_
    show Steps p.tables e below (s₁.setTop (mkF m 6 #[.val (.int p1), .unset, .unset, .unset] [(.int (6 : Int32)), (.int (p1 &&& (2147483647 : Int32)))])) _
    refine iremM X0 hx rfl (hb hby at_6) rfl (by decide) ?_
    show Steps p.tables e below (s₁.setTop (mkF m 7 #[.val (.int p1), .unset, .unset, .unset] [(.int ((p1 &&& (2147483647 : Int32)) % (6 : Int32)))])) _
    refine XS.istoreN X0.here hx rfl (hb hby at_7) rfl (l' := #[.val (.int p1), .val (.int ((p1 &&& (2147483647 : Int32)) % (6 : Int32))), .unset, .unset]) rfl ?_
    show Steps p.tables e below (s₁.setTop (mkF m 8 #[.val (.int p1), .val (.int ((p1 &&& (2147483647 : Int32)) % (6 : Int32))), .unset, .unset] [])) _
    refine XS.iloadN X0.here hx rfl (hb hby at_8) rfl ?_
    show Steps p.tables e below (s₁.setTop (mkF m 9 #[.val (.int p1), .val (.int ((p1 &&& (2147483647 : Int32)) % (6 : Int32))), .unset, .unset] [(.int ((p1 &&& (2147483647 : Int32)) % (6 : Int32)))])) _
    refine st1 _ ?_
    show Steps p.tables e below (T1.setTop (mkF m 12 #[.val (.int p1), .val (.int ((p1 &&& (2147483647 : Int32)) % (6 : Int32))), .unset, .unset] [(.ref (f1 ((p1 &&& (2147483647 : Int32)) % (6 : Int32)) w_CONVENTIONAL w_SIMPLE_INTEREST w_PAYMENT_SCHEDULE w_LEVEL_PRINCIPAL w_OTHER w_PAYMENT_PATTERN))])) _
    refine XS.astoreN X1.here hx rfl (hb hby at_12) rfl rfl (l' := #[.val (.int p1), .val (.int ((p1 &&& (2147483647 : Int32)) % (6 : Int32))), .val (.ref (f1 ((p1 &&& (2147483647 : Int32)) % (6 : Int32)) w_CONVENTIONAL w_SIMPLE_INTEREST w_PAYMENT_SCHEDULE w_LEVEL_PRINCIPAL w_OTHER w_PAYMENT_PATTERN)), .unset]) rfl ?_
    show Steps p.tables e below (T1.setTop (mkF m 13 #[.val (.int p1), .val (.int ((p1 &&& (2147483647 : Int32)) % (6 : Int32))), .val (.ref (f1 ((p1 &&& (2147483647 : Int32)) % (6 : Int32)) w_CONVENTIONAL w_SIMPLE_INTEREST w_PAYMENT_SCHEDULE w_LEVEL_PRINCIPAL w_OTHER w_PAYMENT_PATTERN)), .unset] [])) _
    refine XS.iloadN X1.here hx rfl (hb hby at_13) rfl ?_
    show Steps p.tables e below (T1.setTop (mkF m 14 #[.val (.int p1), .val (.int ((p1 &&& (2147483647 : Int32)) % (6 : Int32))), .val (.ref (f1 ((p1 &&& (2147483647 : Int32)) % (6 : Int32)) w_CONVENTIONAL w_SIMPLE_INTEREST w_PAYMENT_SCHEDULE w_LEVEL_PRINCIPAL w_OTHER w_PAYMENT_PATTERN)), .unset] [(.int ((p1 &&& (2147483647 : Int32)) % (6 : Int32)))])) _
    refine XS.iconst X1.here hx rfl (hb hby at_14) ?_
    exact k)
  by_cases hc5 : ((p1 &&& (2147483647 : Int32)) % (6 : Int32)) = (1 : Int32)
  ·  -- pc 15: ((p1 &&& (2147483647 : Int32)) % (6 : Int32)) = (1 : Int32)
    -- pc 46: AmortizationType.allowsInterestInAdvance by rm2
    obtain ⟨cq6, kq6, q6a, q6b, q6c⟩ := isOf hZ e1 ee3
    obtain ⟨_, _, ⟨T6, L6, k6, n6⟩, -, X6, ⟨Lc6, hQ6, l6, y6, z6⟩, st6⟩ := X1.virtualBack hx (y := (⟨"com/example/tenorcast/tenorcast/engine/AmortizationType", "allowsInterestInAdvance", "()Z"⟩ : MethodName)) (z := (⟨"com/example/tenorcast/tenorcast/engine/AmortizationType", "allowsInterestInAdvance", "()Z"⟩ : MethodName)) hown (mvT hZ (hw _ (List.mem_of_getElem? (i := 8) rfl))) (mvT hZ (hw _ (List.mem_of_getElem? (i := 9) rfl))) (notFace_of_selects (args := #[]) (mvT hZ (hw _ (List.mem_of_getElem? (i := 11) rfl)))) (mvT hZ (hw _ (List.mem_of_getElem? (i := 11) rfl))) (mvT hZ (hw _ (List.mem_of_getElem? (i := 10) rfl))) (by decide) (backOf (W := 0) (rm2 l Z a0 hw [] (f1 ((p1 &&& (2147483647 : Int32)) % (6 : Int32)) w_CONVENTIONAL w_SIMPLE_INTEREST w_PAYMENT_SCHEDULE w_LEVEL_PRINCIPAL w_OTHER w_PAYMENT_PATTERN) w_SIMPLE_INTEREST w_LEVEL_PRINCIPAL w_OTHER h0 n0 Z0 (S_SIMPLE_INTEREST.ext O0.2) (S_LEVEL_PRINCIPAL.ext O0.2) (S_OTHER.ext O0.2)) hZ (hw _ (List.mem_of_getElem? (i := 12) rfl)) (hw _ (List.mem_of_getElem? (i := 6) rfl)) (by decide) (by decide)) q6a q6c (g := (mkF m 46 #[.val (.int p1), .val (.int ((p1 &&& (2147483647 : Int32)) % (6 : Int32))), .val (.ref (f1 ((p1 &&& (2147483647 : Int32)) % (6 : Int32)) w_CONVENTIONAL w_SIMPLE_INTEREST w_PAYMENT_SCHEDULE w_LEVEL_PRINCIPAL w_OTHER w_PAYMENT_PATTERN)), .val (.int (1 : Int32))] [(.ref (f1 ((p1 &&& (2147483647 : Int32)) % (6 : Int32)) w_CONVENTIONAL w_SIMPLE_INTEREST w_PAYMENT_SCHEDULE w_LEVEL_PRINCIPAL w_OTHER w_PAYMENT_PATTERN))])) rfl (by rw [hml]; rfl) (Steps.refl _) (argsL := []) (rest := []) (lenOf pd_42 rfl) rfl (by show 2 * 0 + _ ≤ _; exact Nat.le_of_eq rfl) (hb hby at_46) (fun _ _ => ⟨rfl, e1, (by decide : 0 + 0 ≤ _), (by decide : 0 + 0 ≤ _)⟩)
    dsimp only [Pt.U, Pt.locs, Pt.cells, Pt.slots] at X6 l6 y6 z6 st6 hQ6
    subst l6 y6 z6
    obtain ⟨rfl, N6q, e6⟩ := hQ6
    have N7 := Fr.app N2 N6q
    have pre8 : ∀ t, Steps p.tables e below (T6.setTop (mkF m 50 #[.val (.int p1), .val (.int ((p1 &&& (2147483647 : Int32)) % (6 : Int32))), .val (.ref (f1 ((p1 &&& (2147483647 : Int32)) % (6 : Int32)) w_CONVENTIONAL w_SIMPLE_INTEREST w_PAYMENT_SCHEDULE w_LEVEL_PRINCIPAL w_OTHER w_PAYMENT_PATTERN)), .val (.int (1 : Int32))] [(.int (1 : Int32)), (.int (f2 (f1 ((p1 &&& (2147483647 : Int32)) % (6 : Int32)) w_CONVENTIONAL w_SIMPLE_INTEREST w_PAYMENT_SCHEDULE w_LEVEL_PRINCIPAL w_OTHER w_PAYMENT_PATTERN) w_SIMPLE_INTEREST w_LEVEL_PRINCIPAL w_OTHER))])) t → Steps p.tables e below (s₁.setTop (entryFrame m #[(.int p1)] maxLocals)) t := fun t k => pre4 t (by
      show Steps p.tables e below (T1.setTop (mkF m 15 #[.val (.int p1), .val (.int ((p1 &&& (2147483647 : Int32)) % (6 : Int32))), .val (.ref (f1 ((p1 &&& (2147483647 : Int32)) % (6 : Int32)) w_CONVENTIONAL w_SIMPLE_INTEREST w_PAYMENT_SCHEDULE w_LEVEL_PRINCIPAL w_OTHER w_PAYMENT_PATTERN)), .unset] [(.int (1 : Int32)), (.int ((p1 &&& (2147483647 : Int32)) % (6 : Int32)))])) _
      refine XS.icmpNo X1.here hx rfl (hb hby at_15) rfl (teq hc5).2 ?_
      show Steps p.tables e below (T1.setTop (mkF m 18 #[.val (.int p1), .val (.int ((p1 &&& (2147483647 : Int32)) % (6 : Int32))), .val (.ref (f1 ((p1 &&& (2147483647 : Int32)) % (6 : Int32)) w_CONVENTIONAL w_SIMPLE_INTEREST w_PAYMENT_SCHEDULE w_LEVEL_PRINCIPAL w_OTHER w_PAYMENT_PATTERN)), .unset] [])) _
      refine XS.iconst X1.here hx rfl (hb hby at_18) ?_
      show Steps p.tables e below (T1.setTop (mkF m 19 #[.val (.int p1), .val (.int ((p1 &&& (2147483647 : Int32)) % (6 : Int32))), .val (.ref (f1 ((p1 &&& (2147483647 : Int32)) % (6 : Int32)) w_CONVENTIONAL w_SIMPLE_INTEREST w_PAYMENT_SCHEDULE w_LEVEL_PRINCIPAL w_OTHER w_PAYMENT_PATTERN)), .unset] [(.int (1 : Int32))])) _
      refine XS.istoreN X1.here hx rfl (hb hby at_19) rfl (l' := #[.val (.int p1), .val (.int ((p1 &&& (2147483647 : Int32)) % (6 : Int32))), .val (.ref (f1 ((p1 &&& (2147483647 : Int32)) % (6 : Int32)) w_CONVENTIONAL w_SIMPLE_INTEREST w_PAYMENT_SCHEDULE w_LEVEL_PRINCIPAL w_OTHER w_PAYMENT_PATTERN)), .val (.int (1 : Int32))]) rfl ?_
      show Steps p.tables e below (T1.setTop (mkF m 20 #[.val (.int p1), .val (.int ((p1 &&& (2147483647 : Int32)) % (6 : Int32))), .val (.ref (f1 ((p1 &&& (2147483647 : Int32)) % (6 : Int32)) w_CONVENTIONAL w_SIMPLE_INTEREST w_PAYMENT_SCHEDULE w_LEVEL_PRINCIPAL w_OTHER w_PAYMENT_PATTERN)), .val (.int (1 : Int32))] [])) _
      refine XS.goto X1.here hx rfl (pc0 := 20) (pc' := 45) rfl (hb hby at_20) (by decide) (by decide) ?_
      show Steps p.tables e below (T1.setTop (mkF m 45 #[.val (.int p1), .val (.int ((p1 &&& (2147483647 : Int32)) % (6 : Int32))), .val (.ref (f1 ((p1 &&& (2147483647 : Int32)) % (6 : Int32)) w_CONVENTIONAL w_SIMPLE_INTEREST w_PAYMENT_SCHEDULE w_LEVEL_PRINCIPAL w_OTHER w_PAYMENT_PATTERN)), .val (.int (1 : Int32))] [])) _
      refine XS.aloadN X1.here hx rfl (hb hby at_45) rfl rfl ?_
      show Steps p.tables e below (T1.setTop (mkF m 46 #[.val (.int p1), .val (.int ((p1 &&& (2147483647 : Int32)) % (6 : Int32))), .val (.ref (f1 ((p1 &&& (2147483647 : Int32)) % (6 : Int32)) w_CONVENTIONAL w_SIMPLE_INTEREST w_PAYMENT_SCHEDULE w_LEVEL_PRINCIPAL w_OTHER w_PAYMENT_PATTERN)), .val (.int (1 : Int32))] [(.ref (f1 ((p1 &&& (2147483647 : Int32)) % (6 : Int32)) w_CONVENTIONAL w_SIMPLE_INTEREST w_PAYMENT_SCHEDULE w_LEVEL_PRINCIPAL w_OTHER w_PAYMENT_PATTERN))])) _
      refine st6.trans ?_
      show Steps p.tables e below (T6.setTop (mkF m 49 #[.val (.int p1), .val (.int ((p1 &&& (2147483647 : Int32)) % (6 : Int32))), .val (.ref (f1 ((p1 &&& (2147483647 : Int32)) % (6 : Int32)) w_CONVENTIONAL w_SIMPLE_INTEREST w_PAYMENT_SCHEDULE w_LEVEL_PRINCIPAL w_OTHER w_PAYMENT_PATTERN)), .val (.int (1 : Int32))] [(.int (f2 (f1 ((p1 &&& (2147483647 : Int32)) % (6 : Int32)) w_CONVENTIONAL w_SIMPLE_INTEREST w_PAYMENT_SCHEDULE w_LEVEL_PRINCIPAL w_OTHER w_PAYMENT_PATTERN) w_SIMPLE_INTEREST w_LEVEL_PRINCIPAL w_OTHER))])) _
      refine XS.iloadN X6.here hx rfl (hb hby at_49) rfl ?_
      exact k)
    by_cases hc9 : (f2 (f1 ((p1 &&& (2147483647 : Int32)) % (6 : Int32)) w_CONVENTIONAL w_SIMPLE_INTEREST w_PAYMENT_SCHEDULE w_LEVEL_PRINCIPAL w_OTHER w_PAYMENT_PATTERN) w_SIMPLE_INTEREST w_LEVEL_PRINCIPAL w_OTHER) = (1 : Int32)
    ·  -- pc 50: (f2 (f1 ((p1 &&& (2147483647 : Int32)) % (6 : Int32)) w_CONVENTIONAL w_SIMPLE_INTEREST w_PAYMENT_SCHEDULE w_LEVEL_PRINCIPAL w_OTHER w_PAYMENT_PATTERN) w_SIMPLE_INTEREST w_LEVEL_PRINCIPAL w_OTHER) = (1 : Int32)
      obtain ⟨fs, hr, hrun, hended, hW, hsame⟩ := X6.leave (v := some (.int (1 : Int32))) (fun h => by rw [Bd.returns] at h; cases h)
      refine ⟨_, _, pre8 _ ?_, hrun, hended, _, _, rfl, ?_, ⟨_, rfl⟩, hW, hsame.mono (by decide) (by decide)⟩
      · show Steps p.tables e below (T6.setTop (mkF m 50 #[.val (.int p1), .val (.int ((p1 &&& (2147483647 : Int32)) % (6 : Int32))), .val (.ref (f1 ((p1 &&& (2147483647 : Int32)) % (6 : Int32)) w_CONVENTIONAL w_SIMPLE_INTEREST w_PAYMENT_SCHEDULE w_LEVEL_PRINCIPAL w_OTHER w_PAYMENT_PATTERN)), .val (.int (1 : Int32))] [(.int (1 : Int32)), (.int (f2 (f1 ((p1 &&& (2147483647 : Int32)) % (6 : Int32)) w_CONVENTIONAL w_SIMPLE_INTEREST w_PAYMENT_SCHEDULE w_LEVEL_PRINCIPAL w_OTHER w_PAYMENT_PATTERN) w_SIMPLE_INTEREST w_LEVEL_PRINCIPAL w_OTHER))])) _
        refine XS.icmpNo X6.here hx rfl (hb hby at_50) rfl (teq hc9).2 ?_
        show Steps p.tables e below (T6.setTop (mkF m 53 #[.val (.int p1), .val (.int ((p1 &&& (2147483647 : Int32)) % (6 : Int32))), .val (.ref (f1 ((p1 &&& (2147483647 : Int32)) % (6 : Int32)) w_CONVENTIONAL w_SIMPLE_INTEREST w_PAYMENT_SCHEDULE w_LEVEL_PRINCIPAL w_OTHER w_PAYMENT_PATTERN)), .val (.int (1 : Int32))] [])) _
        refine XS.iconst X6.here hx rfl (hb hby at_53) ?_
        show Steps p.tables e below (T6.setTop (mkF m 54 #[.val (.int p1), .val (.int ((p1 &&& (2147483647 : Int32)) % (6 : Int32))), .val (.ref (f1 ((p1 &&& (2147483647 : Int32)) % (6 : Int32)) w_CONVENTIONAL w_SIMPLE_INTEREST w_PAYMENT_SCHEDULE w_LEVEL_PRINCIPAL w_OTHER w_PAYMENT_PATTERN)), .val (.int (1 : Int32))] [(.int (1 : Int32))])) _
        refine XS.goto X6.here hx rfl (pc0 := 54) (pc' := 58) rfl (hb hby at_54) (by decide) (by decide) ?_
        show Steps p.tables e below (T6.setTop (mkF m 58 #[.val (.int p1), .val (.int ((p1 &&& (2147483647 : Int32)) % (6 : Int32))), .val (.ref (f1 ((p1 &&& (2147483647 : Int32)) % (6 : Int32)) w_CONVENTIONAL w_SIMPLE_INTEREST w_PAYMENT_SCHEDULE w_LEVEL_PRINCIPAL w_OTHER w_PAYMENT_PATTERN)), .val (.int (1 : Int32))] [(.int (1 : Int32))])) _
        exact retN X6 hx (t := .boolean) Bd.returns (by simp) (hb hby at_58) hr
      · show Q0 Z p1 w_CONVENTIONAL w_SIMPLE_INTEREST w_LEVEL_PRINCIPAL w_OTHER w_PAYMENT_SCHEDULE w_PAYMENT_PATTERN h0 n0 _ T6.heap _
        rw [e6]
        exact ⟨(by unfold f0; rw [if_pos hc5, if_pos hc9]), N7⟩
    ·  -- pc 50: not (f2 (f1 ((p1 &&& (2147483647 : Int32)) % (6 : Int32)) w_CONVENTIONAL w_SIMPLE_INTEREST w_PAYMENT_SCHEDULE w_LEVEL_PRINCIPAL w_OTHER w_PAYMENT_PATTERN) w_SIMPLE_INTEREST w_LEVEL_PRINCIPAL w_OTHER) = (1 : Int32)
      obtain ⟨fs, hr, hrun, hended, hW, hsame⟩ := X6.leave (v := some (.int (0 : Int32))) (fun h => by rw [Bd.returns] at h; cases h)
      refine ⟨_, _, pre8 _ ?_, hrun, hended, _, _, rfl, ?_, ⟨_, rfl⟩, hW, hsame.mono (by decide) (by decide)⟩
      · show Steps p.tables e below (T6.setTop (mkF m 50 #[.val (.int p1), .val (.int ((p1 &&& (2147483647 : Int32)) % (6 : Int32))), .val (.ref (f1 ((p1 &&& (2147483647 : Int32)) % (6 : Int32)) w_CONVENTIONAL w_SIMPLE_INTEREST w_PAYMENT_SCHEDULE w_LEVEL_PRINCIPAL w_OTHER w_PAYMENT_PATTERN)), .val (.int (1 : Int32))] [(.int (1 : Int32)), (.int (f2 (f1 ((p1 &&& (2147483647 : Int32)) % (6 : Int32)) w_CONVENTIONAL w_SIMPLE_INTEREST w_PAYMENT_SCHEDULE w_LEVEL_PRINCIPAL w_OTHER w_PAYMENT_PATTERN) w_SIMPLE_INTEREST w_LEVEL_PRINCIPAL w_OTHER))])) _
        refine XS.icmpYes X6.here hx rfl (pc0 := 50) (pc' := 57) rfl (hb hby at_50) rfl (feq hc9).2 (by decide) (by decide) ?_
        show Steps p.tables e below (T6.setTop (mkF m 57 #[.val (.int p1), .val (.int ((p1 &&& (2147483647 : Int32)) % (6 : Int32))), .val (.ref (f1 ((p1 &&& (2147483647 : Int32)) % (6 : Int32)) w_CONVENTIONAL w_SIMPLE_INTEREST w_PAYMENT_SCHEDULE w_LEVEL_PRINCIPAL w_OTHER w_PAYMENT_PATTERN)), .val (.int (1 : Int32))] [])) _
        refine XS.iconst X6.here hx rfl (hb hby at_57) ?_
        show Steps p.tables e below (T6.setTop (mkF m 58 #[.val (.int p1), .val (.int ((p1 &&& (2147483647 : Int32)) % (6 : Int32))), .val (.ref (f1 ((p1 &&& (2147483647 : Int32)) % (6 : Int32)) w_CONVENTIONAL w_SIMPLE_INTEREST w_PAYMENT_SCHEDULE w_LEVEL_PRINCIPAL w_OTHER w_PAYMENT_PATTERN)), .val (.int (1 : Int32))] [(.int (0 : Int32))])) _
        exact retN X6 hx (t := .boolean) Bd.returns (by simp) (hb hby at_58) hr
      · show Q0 Z p1 w_CONVENTIONAL w_SIMPLE_INTEREST w_LEVEL_PRINCIPAL w_OTHER w_PAYMENT_SCHEDULE w_PAYMENT_PATTERN h0 n0 _ T6.heap _
        rw [e6]
        exact ⟨(by unfold f0; rw [if_pos hc5, if_neg hc9]), N7⟩
  ·  -- pc 15: not ((p1 &&& (2147483647 : Int32)) % (6 : Int32)) = (1 : Int32)
    have pre10 : ∀ t, Steps p.tables e below (T1.setTop (mkF m 25 #[.val (.int p1), .val (.int ((p1 &&& (2147483647 : Int32)) % (6 : Int32))), .val (.ref (f1 ((p1 &&& (2147483647 : Int32)) % (6 : Int32)) w_CONVENTIONAL w_SIMPLE_INTEREST w_PAYMENT_SCHEDULE w_LEVEL_PRINCIPAL w_OTHER w_PAYMENT_PATTERN)), .unset] [(.int (3 : Int32)), (.int ((p1 &&& (2147483647 : Int32)) % (6 : Int32)))])) t → Steps p.tables e below (s₁.setTop (entryFrame m #[(.int p1)] maxLocals)) t := fun t k => pre4 t (by
      show Steps p.tables e below (T1.setTop (mkF m 15 #[.val (.int p1), .val (.int ((p1 &&& (2147483647 : Int32)) % (6 : Int32))), .val (.ref (f1 ((p1 &&& (2147483647 : Int32)) % (6 : Int32)) w_CONVENTIONAL w_SIMPLE_INTEREST w_PAYMENT_SCHEDULE w_LEVEL_PRINCIPAL w_OTHER w_PAYMENT_PATTERN)), .unset] [(.int (1 : Int32)), (.int ((p1 &&& (2147483647 : Int32)) % (6 : Int32)))])) _
      refine XS.icmpYes X1.here hx rfl (pc0 := 15) (pc' := 23) rfl (hb hby at_15) rfl (feq hc5).2 (by decide) (by decide) ?_
      show Steps p.tables e below (T1.setTop (mkF m 23 #[.val (.int p1), .val (.int ((p1 &&& (2147483647 : Int32)) % (6 : Int32))), .val (.ref (f1 ((p1 &&& (2147483647 : Int32)) % (6 : Int32)) w_CONVENTIONAL w_SIMPLE_INTEREST w_PAYMENT_SCHEDULE w_LEVEL_PRINCIPAL w_OTHER w_PAYMENT_PATTERN)), .unset] [])) _
      refine XS.iloadN X1.here hx rfl (hb hby at_23) rfl ?_
      show Steps p.tables e below (T1.setTop (mkF m 24 #[.val (.int p1), .val (.int ((p1 &&& (2147483647 : Int32)) % (6 : Int32))), .val (.ref (f1 ((p1 &&& (2147483647 : Int32)) % (6 : Int32)) w_CONVENTIONAL w_SIMPLE_INTEREST w_PAYMENT_SCHEDULE w_LEVEL_PRINCIPAL w_OTHER w_PAYMENT_PATTERN)), .unset] [(.int ((p1 &&& (2147483647 : Int32)) % (6 : Int32)))])) _
      refine XS.iconst X1.here hx rfl (hb hby at_24) ?_
      exact k)
    by_cases hc11 : ((p1 &&& (2147483647 : Int32)) % (6 : Int32)) = (3 : Int32)
    ·  -- pc 25: ((p1 &&& (2147483647 : Int32)) % (6 : Int32)) = (3 : Int32)
      -- pc 46: AmortizationType.allowsInterestInAdvance by rm2
      obtain ⟨cq12, kq12, q12a, q12b, q12c⟩ := isOf hZ e1 ee3
      obtain ⟨_, _, ⟨T12, L12, k12, n12⟩, -, X12, ⟨Lc12, hQ12, l12, y12, z12⟩, st12⟩ := X1.virtualBack hx (y := (⟨"com/example/tenorcast/tenorcast/engine/AmortizationType", "allowsInterestInAdvance", "()Z"⟩ : MethodName)) (z := (⟨"com/example/tenorcast/tenorcast/engine/AmortizationType", "allowsInterestInAdvance", "()Z"⟩ : MethodName)) hown (mvT hZ (hw _ (List.mem_of_getElem? (i := 8) rfl))) (mvT hZ (hw _ (List.mem_of_getElem? (i := 9) rfl))) (notFace_of_selects (args := #[]) (mvT hZ (hw _ (List.mem_of_getElem? (i := 11) rfl)))) (mvT hZ (hw _ (List.mem_of_getElem? (i := 11) rfl))) (mvT hZ (hw _ (List.mem_of_getElem? (i := 10) rfl))) (by decide) (backOf (W := 0) (rm2 l Z a0 hw [] (f1 ((p1 &&& (2147483647 : Int32)) % (6 : Int32)) w_CONVENTIONAL w_SIMPLE_INTEREST w_PAYMENT_SCHEDULE w_LEVEL_PRINCIPAL w_OTHER w_PAYMENT_PATTERN) w_SIMPLE_INTEREST w_LEVEL_PRINCIPAL w_OTHER h0 n0 Z0 (S_SIMPLE_INTEREST.ext O0.2) (S_LEVEL_PRINCIPAL.ext O0.2) (S_OTHER.ext O0.2)) hZ (hw _ (List.mem_of_getElem? (i := 12) rfl)) (hw _ (List.mem_of_getElem? (i := 6) rfl)) (by decide) (by decide)) q12a q12c (g := (mkF m 46 #[.val (.int p1), .val (.int ((p1 &&& (2147483647 : Int32)) % (6 : Int32))), .val (.ref (f1 ((p1 &&& (2147483647 : Int32)) % (6 : Int32)) w_CONVENTIONAL w_SIMPLE_INTEREST w_PAYMENT_SCHEDULE w_LEVEL_PRINCIPAL w_OTHER w_PAYMENT_PATTERN)), .val (.int (1 : Int32))] [(.ref (f1 ((p1 &&& (2147483647 : Int32)) % (6 : Int32)) w_CONVENTIONAL w_SIMPLE_INTEREST w_PAYMENT_SCHEDULE w_LEVEL_PRINCIPAL w_OTHER w_PAYMENT_PATTERN))])) rfl (by rw [hml]; rfl) (Steps.refl _) (argsL := []) (rest := []) (lenOf pd_42 rfl) rfl (by show 2 * 0 + _ ≤ _; exact Nat.le_of_eq rfl) (hb hby at_46) (fun _ _ => ⟨rfl, e1, (by decide : 0 + 0 ≤ _), (by decide : 0 + 0 ≤ _)⟩)
      dsimp only [Pt.U, Pt.locs, Pt.cells, Pt.slots] at X12 l12 y12 z12 st12 hQ12
      subst l12 y12 z12
      obtain ⟨rfl, N12q, e12⟩ := hQ12
      have N13 := Fr.app N2 N12q
      have pre14 : ∀ t, Steps p.tables e below (T12.setTop (mkF m 50 #[.val (.int p1), .val (.int ((p1 &&& (2147483647 : Int32)) % (6 : Int32))), .val (.ref (f1 ((p1 &&& (2147483647 : Int32)) % (6 : Int32)) w_CONVENTIONAL w_SIMPLE_INTEREST w_PAYMENT_SCHEDULE w_LEVEL_PRINCIPAL w_OTHER w_PAYMENT_PATTERN)), .val (.int (1 : Int32))] [(.int (1 : Int32)), (.int (f2 (f1 ((p1 &&& (2147483647 : Int32)) % (6 : Int32)) w_CONVENTIONAL w_SIMPLE_INTEREST w_PAYMENT_SCHEDULE w_LEVEL_PRINCIPAL w_OTHER w_PAYMENT_PATTERN) w_SIMPLE_INTEREST w_LEVEL_PRINCIPAL w_OTHER))])) t → Steps p.tables e below (s₁.setTop (entryFrame m #[(.int p1)] maxLocals)) t := fun t k => pre10 t (by
        show Steps p.tables e below (T1.setTop (mkF m 25 #[.val (.int p1), .val (.int ((p1 &&& (2147483647 : Int32)) % (6 : Int32))), .val (.ref (f1 ((p1 &&& (2147483647 : Int32)) % (6 : Int32)) w_CONVENTIONAL w_SIMPLE_INTEREST w_PAYMENT_SCHEDULE w_LEVEL_PRINCIPAL w_OTHER w_PAYMENT_PATTERN)), .unset] [(.int (3 : Int32)), (.int ((p1 &&& (2147483647 : Int32)) % (6 : Int32)))])) _
        refine XS.icmpNo X1.here hx rfl (hb hby at_25) rfl (teq hc11).2 ?_
        show Steps p.tables e below (T1.setTop (mkF m 28 #[.val (.int p1), .val (.int ((p1 &&& (2147483647 : Int32)) % (6 : Int32))), .val (.ref (f1 ((p1 &&& (2147483647 : Int32)) % (6 : Int32)) w_CONVENTIONAL w_SIMPLE_INTEREST w_PAYMENT_SCHEDULE w_LEVEL_PRINCIPAL w_OTHER w_PAYMENT_PATTERN)), .unset] [])) _
        refine XS.iconst X1.here hx rfl (hb hby at_28) ?_
        show Steps p.tables e below (T1.setTop (mkF m 29 #[.val (.int p1), .val (.int ((p1 &&& (2147483647 : Int32)) % (6 : Int32))), .val (.ref (f1 ((p1 &&& (2147483647 : Int32)) % (6 : Int32)) w_CONVENTIONAL w_SIMPLE_INTEREST w_PAYMENT_SCHEDULE w_LEVEL_PRINCIPAL w_OTHER w_PAYMENT_PATTERN)), .unset] [(.int (1 : Int32))])) _
        refine XS.istoreN X1.here hx rfl (hb hby at_29) rfl (l' := #[.val (.int p1), .val (.int ((p1 &&& (2147483647 : Int32)) % (6 : Int32))), .val (.ref (f1 ((p1 &&& (2147483647 : Int32)) % (6 : Int32)) w_CONVENTIONAL w_SIMPLE_INTEREST w_PAYMENT_SCHEDULE w_LEVEL_PRINCIPAL w_OTHER w_PAYMENT_PATTERN)), .val (.int (1 : Int32))]) rfl ?_
        show Steps p.tables e below (T1.setTop (mkF m 30 #[.val (.int p1), .val (.int ((p1 &&& (2147483647 : Int32)) % (6 : Int32))), .val (.ref (f1 ((p1 &&& (2147483647 : Int32)) % (6 : Int32)) w_CONVENTIONAL w_SIMPLE_INTEREST w_PAYMENT_SCHEDULE w_LEVEL_PRINCIPAL w_OTHER w_PAYMENT_PATTERN)), .val (.int (1 : Int32))] [])) _
        refine XS.goto X1.here hx rfl (pc0 := 30) (pc' := 45) rfl (hb hby at_30) (by decide) (by decide) ?_
        show Steps p.tables e below (T1.setTop (mkF m 45 #[.val (.int p1), .val (.int ((p1 &&& (2147483647 : Int32)) % (6 : Int32))), .val (.ref (f1 ((p1 &&& (2147483647 : Int32)) % (6 : Int32)) w_CONVENTIONAL w_SIMPLE_INTEREST w_PAYMENT_SCHEDULE w_LEVEL_PRINCIPAL w_OTHER w_PAYMENT_PATTERN)), .val (.int (1 : Int32))] [])) _
        refine XS.aloadN X1.here hx rfl (hb hby at_45) rfl rfl ?_
        show Steps p.tables e below (T1.setTop (mkF m 46 #[.val (.int p1), .val (.int ((p1 &&& (2147483647 : Int32)) % (6 : Int32))), .val (.ref (f1 ((p1 &&& (2147483647 : Int32)) % (6 : Int32)) w_CONVENTIONAL w_SIMPLE_INTEREST w_PAYMENT_SCHEDULE w_LEVEL_PRINCIPAL w_OTHER w_PAYMENT_PATTERN)), .val (.int (1 : Int32))] [(.ref (f1 ((p1 &&& (2147483647 : Int32)) % (6 : Int32)) w_CONVENTIONAL w_SIMPLE_INTEREST w_PAYMENT_SCHEDULE w_LEVEL_PRINCIPAL w_OTHER w_PAYMENT_PATTERN))])) _
        refine st12.trans ?_
        show Steps p.tables e below (T12.setTop (mkF m 49 #[.val (.int p1), .val (.int ((p1 &&& (2147483647 : Int32)) % (6 : Int32))), .val (.ref (f1 ((p1 &&& (2147483647 : Int32)) % (6 : Int32)) w_CONVENTIONAL w_SIMPLE_INTEREST w_PAYMENT_SCHEDULE w_LEVEL_PRINCIPAL w_OTHER w_PAYMENT_PATTERN)), .val (.int (1 : Int32))] [(.int (f2 (f1 ((p1 &&& (2147483647 : Int32)) % (6 : Int32)) w_CONVENTIONAL w_SIMPLE_INTEREST w_PAYMENT_SCHEDULE w_LEVEL_PRINCIPAL w_OTHER w_PAYMENT_PATTERN) w_SIMPLE_INTEREST w_LEVEL_PRINCIPAL w_OTHER))])) _
        refine XS.iloadN X12.here hx rfl (hb hby at_49) rfl ?_
        exact k)
      by_cases hc15 : (f2 (f1 ((p1 &&& (2147483647 : Int32)) % (6 : Int32)) w_CONVENTIONAL w_SIMPLE_INTEREST w_PAYMENT_SCHEDULE w_LEVEL_PRINCIPAL w_OTHER w_PAYMENT_PATTERN) w_SIMPLE_INTEREST w_LEVEL_PRINCIPAL w_OTHER) = (1 : Int32)
      ·  -- pc 50: (f2 (f1 ((p1 &&& (2147483647 : Int32)) % (6 : Int32)) w_CONVENTIONAL w_SIMPLE_INTEREST w_PAYMENT_SCHEDULE w_LEVEL_PRINCIPAL w_OTHER w_PAYMENT_PATTERN) w_SIMPLE_INTEREST w_LEVEL_PRINCIPAL w_OTHER) = (1 : Int32)
        obtain ⟨fs, hr, hrun, hended, hW, hsame⟩ := X12.leave (v := some (.int (1 : Int32))) (fun h => by rw [Bd.returns] at h; cases h)
        refine ⟨_, _, pre14 _ ?_, hrun, hended, _, _, rfl, ?_, ⟨_, rfl⟩, hW, hsame.mono (by decide) (by decide)⟩
        · show Steps p.tables e below (T12.setTop (mkF m 50 #[.val (.int p1), .val (.int ((p1 &&& (2147483647 : Int32)) % (6 : Int32))), .val (.ref (f1 ((p1 &&& (2147483647 : Int32)) % (6 : Int32)) w_CONVENTIONAL w_SIMPLE_INTEREST w_PAYMENT_SCHEDULE w_LEVEL_PRINCIPAL w_OTHER w_PAYMENT_PATTERN)), .val (.int (1 : Int32))] [(.int (1 : Int32)), (.int (f2 (f1 ((p1 &&& (2147483647 : Int32)) % (6 : Int32)) w_CONVENTIONAL w_SIMPLE_INTEREST w_PAYMENT_SCHEDULE w_LEVEL_PRINCIPAL w_OTHER w_PAYMENT_PATTERN) w_SIMPLE_INTEREST w_LEVEL_PRINCIPAL w_OTHER))])) _
          refine XS.icmpNo X12.here hx rfl (hb hby at_50) rfl (teq hc15).2 ?_
          show Steps p.tables e below (T12.setTop (mkF m 53 #[.val (.int p1), .val (.int ((p1 &&& (2147483647 : Int32)) % (6 : Int32))), .val (.ref (f1 ((p1 &&& (2147483647 : Int32)) % (6 : Int32)) w_CONVENTIONAL w_SIMPLE_INTEREST w_PAYMENT_SCHEDULE w_LEVEL_PRINCIPAL w_OTHER w_PAYMENT_PATTERN)), .val (.int (1 : Int32))] [])) _
          refine XS.iconst X12.here hx rfl (hb hby at_53) ?_
          show Steps p.tables e below (T12.setTop (mkF m 54 #[.val (.int p1), .val (.int ((p1 &&& (2147483647 : Int32)) % (6 : Int32))), .val (.ref (f1 ((p1 &&& (2147483647 : Int32)) % (6 : Int32)) w_CONVENTIONAL w_SIMPLE_INTEREST w_PAYMENT_SCHEDULE w_LEVEL_PRINCIPAL w_OTHER w_PAYMENT_PATTERN)), .val (.int (1 : Int32))] [(.int (1 : Int32))])) _
          refine XS.goto X12.here hx rfl (pc0 := 54) (pc' := 58) rfl (hb hby at_54) (by decide) (by decide) ?_
          show Steps p.tables e below (T12.setTop (mkF m 58 #[.val (.int p1), .val (.int ((p1 &&& (2147483647 : Int32)) % (6 : Int32))), .val (.ref (f1 ((p1 &&& (2147483647 : Int32)) % (6 : Int32)) w_CONVENTIONAL w_SIMPLE_INTEREST w_PAYMENT_SCHEDULE w_LEVEL_PRINCIPAL w_OTHER w_PAYMENT_PATTERN)), .val (.int (1 : Int32))] [(.int (1 : Int32))])) _
          exact retN X12 hx (t := .boolean) Bd.returns (by simp) (hb hby at_58) hr
        · show Q0 Z p1 w_CONVENTIONAL w_SIMPLE_INTEREST w_LEVEL_PRINCIPAL w_OTHER w_PAYMENT_SCHEDULE w_PAYMENT_PATTERN h0 n0 _ T12.heap _
          rw [e12]
          exact ⟨(by unfold f0; rw [if_neg hc5, if_pos hc11, if_pos hc15]), N13⟩
      ·  -- pc 50: not (f2 (f1 ((p1 &&& (2147483647 : Int32)) % (6 : Int32)) w_CONVENTIONAL w_SIMPLE_INTEREST w_PAYMENT_SCHEDULE w_LEVEL_PRINCIPAL w_OTHER w_PAYMENT_PATTERN) w_SIMPLE_INTEREST w_LEVEL_PRINCIPAL w_OTHER) = (1 : Int32)
        obtain ⟨fs, hr, hrun, hended, hW, hsame⟩ := X12.leave (v := some (.int (0 : Int32))) (fun h => by rw [Bd.returns] at h; cases h)
        refine ⟨_, _, pre14 _ ?_, hrun, hended, _, _, rfl, ?_, ⟨_, rfl⟩, hW, hsame.mono (by decide) (by decide)⟩
        · show Steps p.tables e below (T12.setTop (mkF m 50 #[.val (.int p1), .val (.int ((p1 &&& (2147483647 : Int32)) % (6 : Int32))), .val (.ref (f1 ((p1 &&& (2147483647 : Int32)) % (6 : Int32)) w_CONVENTIONAL w_SIMPLE_INTEREST w_PAYMENT_SCHEDULE w_LEVEL_PRINCIPAL w_OTHER w_PAYMENT_PATTERN)), .val (.int (1 : Int32))] [(.int (1 : Int32)), (.int (f2 (f1 ((p1 &&& (2147483647 : Int32)) % (6 : Int32)) w_CONVENTIONAL w_SIMPLE_INTEREST w_PAYMENT_SCHEDULE w_LEVEL_PRINCIPAL w_OTHER w_PAYMENT_PATTERN) w_SIMPLE_INTEREST w_LEVEL_PRINCIPAL w_OTHER))])) _
          refine XS.icmpYes X12.here hx rfl (pc0 := 50) (pc' := 57) rfl (hb hby at_50) rfl (feq hc15).2 (by decide) (by decide) ?_
          show Steps p.tables e below (T12.setTop (mkF m 57 #[.val (.int p1), .val (.int ((p1 &&& (2147483647 : Int32)) % (6 : Int32))), .val (.ref (f1 ((p1 &&& (2147483647 : Int32)) % (6 : Int32)) w_CONVENTIONAL w_SIMPLE_INTEREST w_PAYMENT_SCHEDULE w_LEVEL_PRINCIPAL w_OTHER w_PAYMENT_PATTERN)), .val (.int (1 : Int32))] [])) _
          refine XS.iconst X12.here hx rfl (hb hby at_57) ?_
          show Steps p.tables e below (T12.setTop (mkF m 58 #[.val (.int p1), .val (.int ((p1 &&& (2147483647 : Int32)) % (6 : Int32))), .val (.ref (f1 ((p1 &&& (2147483647 : Int32)) % (6 : Int32)) w_CONVENTIONAL w_SIMPLE_INTEREST w_PAYMENT_SCHEDULE w_LEVEL_PRINCIPAL w_OTHER w_PAYMENT_PATTERN)), .val (.int (1 : Int32))] [(.int (0 : Int32))])) _
          exact retN X12 hx (t := .boolean) Bd.returns (by simp) (hb hby at_58) hr
        · show Q0 Z p1 w_CONVENTIONAL w_SIMPLE_INTEREST w_LEVEL_PRINCIPAL w_OTHER w_PAYMENT_SCHEDULE w_PAYMENT_PATTERN h0 n0 _ T12.heap _
          rw [e12]
          exact ⟨(by unfold f0; rw [if_neg hc5, if_pos hc11, if_neg hc15]), N13⟩
    ·  -- pc 25: not ((p1 &&& (2147483647 : Int32)) % (6 : Int32)) = (3 : Int32)
      have pre16 : ∀ t, Steps p.tables e below (T1.setTop (mkF m 35 #[.val (.int p1), .val (.int ((p1 &&& (2147483647 : Int32)) % (6 : Int32))), .val (.ref (f1 ((p1 &&& (2147483647 : Int32)) % (6 : Int32)) w_CONVENTIONAL w_SIMPLE_INTEREST w_PAYMENT_SCHEDULE w_LEVEL_PRINCIPAL w_OTHER w_PAYMENT_PATTERN)), .unset] [(.int (4 : Int32)), (.int ((p1 &&& (2147483647 : Int32)) % (6 : Int32)))])) t → Steps p.tables e below (s₁.setTop (entryFrame m #[(.int p1)] maxLocals)) t := fun t k => pre10 t (by
        show Steps p.tables e below (T1.setTop (mkF m 25 #[.val (.int p1), .val (.int ((p1 &&& (2147483647 : Int32)) % (6 : Int32))), .val (.ref (f1 ((p1 &&& (2147483647 : Int32)) % (6 : Int32)) w_CONVENTIONAL w_SIMPLE_INTEREST w_PAYMENT_SCHEDULE w_LEVEL_PRINCIPAL w_OTHER w_PAYMENT_PATTERN)), .unset] [(.int (3 : Int32)), (.int ((p1 &&& (2147483647 : Int32)) % (6 : Int32)))])) _
        refine XS.icmpYes X1.here hx rfl (pc0 := 25) (pc' := 33) rfl (hb hby at_25) rfl (feq hc11).2 (by decide) (by decide) ?_
        show Steps p.tables e below (T1.setTop (mkF m 33 #[.val (.int p1), .val (.int ((p1 &&& (2147483647 : Int32)) % (6 : Int32))), .val (.ref (f1 ((p1 &&& (2147483647 : Int32)) % (6 : Int32)) w_CONVENTIONAL w_SIMPLE_INTEREST w_PAYMENT_SCHEDULE w_LEVEL_PRINCIPAL w_OTHER w_PAYMENT_PATTERN)), .unset] [])) _
        refine XS.iloadN X1.here hx rfl (hb hby at_33) rfl ?_
        show Steps p.tables e below (T1.setTop (mkF m 34 #[.val (.int p1), .val (.int ((p1 &&& (2147483647 : Int32)) % (6 : Int32))), .val (.ref (f1 ((p1 &&& (2147483647 : Int32)) % (6 : Int32)) w_CONVENTIONAL w_SIMPLE_INTEREST w_PAYMENT_SCHEDULE w_LEVEL_PRINCIPAL w_OTHER w_PAYMENT_PATTERN)), .unset] [(.int ((p1 &&& (2147483647 : Int32)) % (6 : Int32)))])) _
        refine XS.iconst X1.here hx rfl (hb hby at_34) ?_
        exact k)
      by_cases hc17 : ((p1 &&& (2147483647 : Int32)) % (6 : Int32)) = (4 : Int32)
      ·  -- pc 35: ((p1 &&& (2147483647 : Int32)) % (6 : Int32)) = (4 : Int32)
        -- pc 46: AmortizationType.allowsInterestInAdvance by rm2
        obtain ⟨cq18, kq18, q18a, q18b, q18c⟩ := isOf hZ e1 ee3
        obtain ⟨_, _, ⟨T18, L18, k18, n18⟩, -, X18, ⟨Lc18, hQ18, l18, y18, z18⟩, st18⟩ := X1.virtualBack hx (y := (⟨"com/example/tenorcast/tenorcast/engine/AmortizationType", "allowsInterestInAdvance", "()Z"⟩ : MethodName)) (z := (⟨"com/example/tenorcast/tenorcast/engine/AmortizationType", "allowsInterestInAdvance", "()Z"⟩ : MethodName)) hown (mvT hZ (hw _ (List.mem_of_getElem? (i := 8) rfl))) (mvT hZ (hw _ (List.mem_of_getElem? (i := 9) rfl))) (notFace_of_selects (args := #[]) (mvT hZ (hw _ (List.mem_of_getElem? (i := 11) rfl)))) (mvT hZ (hw _ (List.mem_of_getElem? (i := 11) rfl))) (mvT hZ (hw _ (List.mem_of_getElem? (i := 10) rfl))) (by decide) (backOf (W := 0) (rm2 l Z a0 hw [] (f1 ((p1 &&& (2147483647 : Int32)) % (6 : Int32)) w_CONVENTIONAL w_SIMPLE_INTEREST w_PAYMENT_SCHEDULE w_LEVEL_PRINCIPAL w_OTHER w_PAYMENT_PATTERN) w_SIMPLE_INTEREST w_LEVEL_PRINCIPAL w_OTHER h0 n0 Z0 (S_SIMPLE_INTEREST.ext O0.2) (S_LEVEL_PRINCIPAL.ext O0.2) (S_OTHER.ext O0.2)) hZ (hw _ (List.mem_of_getElem? (i := 12) rfl)) (hw _ (List.mem_of_getElem? (i := 6) rfl)) (by decide) (by decide)) q18a q18c (g := (mkF m 46 #[.val (.int p1), .val (.int ((p1 &&& (2147483647 : Int32)) % (6 : Int32))), .val (.ref (f1 ((p1 &&& (2147483647 : Int32)) % (6 : Int32)) w_CONVENTIONAL w_SIMPLE_INTEREST w_PAYMENT_SCHEDULE w_LEVEL_PRINCIPAL w_OTHER w_PAYMENT_PATTERN)), .val (.int (1 : Int32))] [(.ref (f1 ((p1 &&& (2147483647 : Int32)) % (6 : Int32)) w_CONVENTIONAL w_SIMPLE_INTEREST w_PAYMENT_SCHEDULE w_LEVEL_PRINCIPAL w_OTHER w_PAYMENT_PATTERN))])) rfl (by rw [hml]; rfl) (Steps.refl _) (argsL := []) (rest := []) (lenOf pd_42 rfl) rfl (by show 2 * 0 + _ ≤ _; exact Nat.le_of_eq rfl) (hb hby at_46) (fun _ _ => ⟨rfl, e1, (by decide : 0 + 0 ≤ _), (by decide : 0 + 0 ≤ _)⟩)
        dsimp only [Pt.U, Pt.locs, Pt.cells, Pt.slots] at X18 l18 y18 z18 st18 hQ18
        subst l18 y18 z18
        obtain ⟨rfl, N18q, e18⟩ := hQ18
        have N19 := Fr.app N2 N18q
        have pre20 : ∀ t, Steps p.tables e below (T18.setTop (mkF m 50 #[.val (.int p1), .val (.int ((p1 &&& (2147483647 : Int32)) % (6 : Int32))), .val (.ref (f1 ((p1 &&& (2147483647 : Int32)) % (6 : Int32)) w_CONVENTIONAL w_SIMPLE_INTEREST w_PAYMENT_SCHEDULE w_LEVEL_PRINCIPAL w_OTHER w_PAYMENT_PATTERN)), .val (.int (1 : Int32))] [(.int (1 : Int32)), (.int (f2 (f1 ((p1 &&& (2147483647 : Int32)) % (6 : Int32)) w_CONVENTIONAL w_SIMPLE_INTEREST w_PAYMENT_SCHEDULE w_LEVEL_PRINCIPAL w_OTHER w_PAYMENT_PATTERN) w_SIMPLE_INTEREST w_LEVEL_PRINCIPAL w_OTHER))])) t → Steps p.tables e below (s₁.setTop (entryFrame m #[(.int p1)] maxLocals)) t := fun t k => pre16 t (by
          show Steps p.tables e below (T1.setTop (mkF m 35 #[.val (.int p1), .val (.int ((p1 &&& (2147483647 : Int32)) % (6 : Int32))), .val (.ref (f1 ((p1 &&& (2147483647 : Int32)) % (6 : Int32)) w_CONVENTIONAL w_SIMPLE_INTEREST w_PAYMENT_SCHEDULE w_LEVEL_PRINCIPAL w_OTHER w_PAYMENT_PATTERN)), .unset] [(.int (4 : Int32)), (.int ((p1 &&& (2147483647 : Int32)) % (6 : Int32)))])) _
          refine XS.icmpNo X1.here hx rfl (hb hby at_35) rfl (teq hc17).2 ?_
          show Steps p.tables e below (T1.setTop (mkF m 38 #[.val (.int p1), .val (.int ((p1 &&& (2147483647 : Int32)) % (6 : Int32))), .val (.ref (f1 ((p1 &&& (2147483647 : Int32)) % (6 : Int32)) w_CONVENTIONAL w_SIMPLE_INTEREST w_PAYMENT_SCHEDULE w_LEVEL_PRINCIPAL w_OTHER w_PAYMENT_PATTERN)), .unset] [])) _
          refine XS.iconst X1.here hx rfl (hb hby at_38) ?_
          show Steps p.tables e below (T1.setTop (mkF m 39 #[.val (.int p1), .val (.int ((p1 &&& (2147483647 : Int32)) % (6 : Int32))), .val (.ref (f1 ((p1 &&& (2147483647 : Int32)) % (6 : Int32)) w_CONVENTIONAL w_SIMPLE_INTEREST w_PAYMENT_SCHEDULE w_LEVEL_PRINCIPAL w_OTHER w_PAYMENT_PATTERN)), .unset] [(.int (1 : Int32))])) _
          refine XS.istoreN X1.here hx rfl (hb hby at_39) rfl (l' := #[.val (.int p1), .val (.int ((p1 &&& (2147483647 : Int32)) % (6 : Int32))), .val (.ref (f1 ((p1 &&& (2147483647 : Int32)) % (6 : Int32)) w_CONVENTIONAL w_SIMPLE_INTEREST w_PAYMENT_SCHEDULE w_LEVEL_PRINCIPAL w_OTHER w_PAYMENT_PATTERN)), .val (.int (1 : Int32))]) rfl ?_
          show Steps p.tables e below (T1.setTop (mkF m 40 #[.val (.int p1), .val (.int ((p1 &&& (2147483647 : Int32)) % (6 : Int32))), .val (.ref (f1 ((p1 &&& (2147483647 : Int32)) % (6 : Int32)) w_CONVENTIONAL w_SIMPLE_INTEREST w_PAYMENT_SCHEDULE w_LEVEL_PRINCIPAL w_OTHER w_PAYMENT_PATTERN)), .val (.int (1 : Int32))] [])) _
          refine XS.goto X1.here hx rfl (pc0 := 40) (pc' := 45) rfl (hb hby at_40) (by decide) (by decide) ?_
          show Steps p.tables e below (T1.setTop (mkF m 45 #[.val (.int p1), .val (.int ((p1 &&& (2147483647 : Int32)) % (6 : Int32))), .val (.ref (f1 ((p1 &&& (2147483647 : Int32)) % (6 : Int32)) w_CONVENTIONAL w_SIMPLE_INTEREST w_PAYMENT_SCHEDULE w_LEVEL_PRINCIPAL w_OTHER w_PAYMENT_PATTERN)), .val (.int (1 : Int32))] [])) _
          refine XS.aloadN X1.here hx rfl (hb hby at_45) rfl rfl ?_
          show Steps p.tables e below (T1.setTop (mkF m 46 #[.val (.int p1), .val (.int ((p1 &&& (2147483647 : Int32)) % (6 : Int32))), .val (.ref (f1 ((p1 &&& (2147483647 : Int32)) % (6 : Int32)) w_CONVENTIONAL w_SIMPLE_INTEREST w_PAYMENT_SCHEDULE w_LEVEL_PRINCIPAL w_OTHER w_PAYMENT_PATTERN)), .val (.int (1 : Int32))] [(.ref (f1 ((p1 &&& (2147483647 : Int32)) % (6 : Int32)) w_CONVENTIONAL w_SIMPLE_INTEREST w_PAYMENT_SCHEDULE w_LEVEL_PRINCIPAL w_OTHER w_PAYMENT_PATTERN))])) _
          refine st18.trans ?_
          show Steps p.tables e below (T18.setTop (mkF m 49 #[.val (.int p1), .val (.int ((p1 &&& (2147483647 : Int32)) % (6 : Int32))), .val (.ref (f1 ((p1 &&& (2147483647 : Int32)) % (6 : Int32)) w_CONVENTIONAL w_SIMPLE_INTEREST w_PAYMENT_SCHEDULE w_LEVEL_PRINCIPAL w_OTHER w_PAYMENT_PATTERN)), .val (.int (1 : Int32))] [(.int (f2 (f1 ((p1 &&& (2147483647 : Int32)) % (6 : Int32)) w_CONVENTIONAL w_SIMPLE_INTEREST w_PAYMENT_SCHEDULE w_LEVEL_PRINCIPAL w_OTHER w_PAYMENT_PATTERN) w_SIMPLE_INTEREST w_LEVEL_PRINCIPAL w_OTHER))])) _
          refine XS.iloadN X18.here hx rfl (hb hby at_49) rfl ?_
          exact k)
        by_cases hc21 : (f2 (f1 ((p1 &&& (2147483647 : Int32)) % (6 : Int32)) w_CONVENTIONAL w_SIMPLE_INTEREST w_PAYMENT_SCHEDULE w_LEVEL_PRINCIPAL w_OTHER w_PAYMENT_PATTERN) w_SIMPLE_INTEREST w_LEVEL_PRINCIPAL w_OTHER) = (1 : Int32)
        ·  -- pc 50: (f2 (f1 ((p1 &&& (2147483647 : Int32)) % (6 : Int32)) w_CONVENTIONAL w_SIMPLE_INTEREST w_PAYMENT_SCHEDULE w_LEVEL_PRINCIPAL w_OTHER w_PAYMENT_PATTERN) w_SIMPLE_INTEREST w_LEVEL_PRINCIPAL w_OTHER) = (1 : Int32)
          obtain ⟨fs, hr, hrun, hended, hW, hsame⟩ := X18.leave (v := some (.int (1 : Int32))) (fun h => by rw [Bd.returns] at h; cases h)
          refine ⟨_, _, pre20 _ ?_, hrun, hended, _, _, rfl, ?_, ⟨_, rfl⟩, hW, hsame.mono (by decide) (by decide)⟩
          · show Steps p.tables e below (T18.setTop (mkF m 50 #[.val (.int p1), .val (.int ((p1 &&& (2147483647 : Int32)) % (6 : Int32))), .val (.ref (f1 ((p1 &&& (2147483647 : Int32)) % (6 : Int32)) w_CONVENTIONAL w_SIMPLE_INTEREST w_PAYMENT_SCHEDULE w_LEVEL_PRINCIPAL w_OTHER w_PAYMENT_PATTERN)), .val (.int (1 : Int32))] [(.int (1 : Int32)), (.int (f2 (f1 ((p1 &&& (2147483647 : Int32)) % (6 : Int32)) w_CONVENTIONAL w_SIMPLE_INTEREST w_PAYMENT_SCHEDULE w_LEVEL_PRINCIPAL w_OTHER w_PAYMENT_PATTERN) w_SIMPLE_INTEREST w_LEVEL_PRINCIPAL w_OTHER))])) _
            refine XS.icmpNo X18.here hx rfl (hb hby at_50) rfl (teq hc21).2 ?_
            show Steps p.tables e below (T18.setTop (mkF m 53 #[.val (.int p1), .val (.int ((p1 &&& (2147483647 : Int32)) % (6 : Int32))), .val (.ref (f1 ((p1 &&& (2147483647 : Int32)) % (6 : Int32)) w_CONVENTIONAL w_SIMPLE_INTEREST w_PAYMENT_SCHEDULE w_LEVEL_PRINCIPAL w_OTHER w_PAYMENT_PATTERN)), .val (.int (1 : Int32))] [])) _
            refine XS.iconst X18.here hx rfl (hb hby at_53) ?_
            show Steps p.tables e below (T18.setTop (mkF m 54 #[.val (.int p1), .val (.int ((p1 &&& (2147483647 : Int32)) % (6 : Int32))), .val (.ref (f1 ((p1 &&& (2147483647 : Int32)) % (6 : Int32)) w_CONVENTIONAL w_SIMPLE_INTEREST w_PAYMENT_SCHEDULE w_LEVEL_PRINCIPAL w_OTHER w_PAYMENT_PATTERN)), .val (.int (1 : Int32))] [(.int (1 : Int32))])) _
            refine XS.goto X18.here hx rfl (pc0 := 54) (pc' := 58) rfl (hb hby at_54) (by decide) (by decide) ?_
            show Steps p.tables e below (T18.setTop (mkF m 58 #[.val (.int p1), .val (.int ((p1 &&& (2147483647 : Int32)) % (6 : Int32))), .val (.ref (f1 ((p1 &&& (2147483647 : Int32)) % (6 : Int32)) w_CONVENTIONAL w_SIMPLE_INTEREST w_PAYMENT_SCHEDULE w_LEVEL_PRINCIPAL w_OTHER w_PAYMENT_PATTERN)), .val (.int (1 : Int32))] [(.int (1 : Int32))])) _
            exact retN X18 hx (t := .boolean) Bd.returns (by simp) (hb hby at_58) hr
          · show Q0 Z p1 w_CONVENTIONAL w_SIMPLE_INTEREST w_LEVEL_PRINCIPAL w_OTHER w_PAYMENT_SCHEDULE w_PAYMENT_PATTERN h0 n0 _ T18.heap _
            rw [e18]
            exact ⟨(by unfold f0; rw [if_neg hc5, if_neg hc11, if_pos hc17, if_pos hc21]), N19⟩
        ·  -- pc 50: not (f2 (f1 ((p1 &&& (2147483647 : Int32)) % (6 : Int32)) w_CONVENTIONAL w_SIMPLE_INTEREST w_PAYMENT_SCHEDULE w_LEVEL_PRINCIPAL w_OTHER w_PAYMENT_PATTERN) w_SIMPLE_INTEREST w_LEVEL_PRINCIPAL w_OTHER) = (1 : Int32)
          obtain ⟨fs, hr, hrun, hended, hW, hsame⟩ := X18.leave (v := some (.int (0 : Int32))) (fun h => by rw [Bd.returns] at h; cases h)
          refine ⟨_, _, pre20 _ ?_, hrun, hended, _, _, rfl, ?_, ⟨_, rfl⟩, hW, hsame.mono (by decide) (by decide)⟩
          · show Steps p.tables e below (T18.setTop (mkF m 50 #[.val (.int p1), .val (.int ((p1 &&& (2147483647 : Int32)) % (6 : Int32))), .val (.ref (f1 ((p1 &&& (2147483647 : Int32)) % (6 : Int32)) w_CONVENTIONAL w_SIMPLE_INTEREST w_PAYMENT_SCHEDULE w_LEVEL_PRINCIPAL w_OTHER w_PAYMENT_PATTERN)), .val (.int (1 : Int32))] [(.int (1 : Int32)), (.int (f2 (f1 ((p1 &&& (2147483647 : Int32)) % (6 : Int32)) w_CONVENTIONAL w_SIMPLE_INTEREST w_PAYMENT_SCHEDULE w_LEVEL_PRINCIPAL w_OTHER w_PAYMENT_PATTERN) w_SIMPLE_INTEREST w_LEVEL_PRINCIPAL w_OTHER))])) _
            refine XS.icmpYes X18.here hx rfl (pc0 := 50) (pc' := 57) rfl (hb hby at_50) rfl (feq hc21).2 (by decide) (by decide) ?_
            show Steps p.tables e below (T18.setTop (mkF m 57 #[.val (.int p1), .val (.int ((p1 &&& (2147483647 : Int32)) % (6 : Int32))), .val (.ref (f1 ((p1 &&& (2147483647 : Int32)) % (6 : Int32)) w_CONVENTIONAL w_SIMPLE_INTEREST w_PAYMENT_SCHEDULE w_LEVEL_PRINCIPAL w_OTHER w_PAYMENT_PATTERN)), .val (.int (1 : Int32))] [])) _
            refine XS.iconst X18.here hx rfl (hb hby at_57) ?_
            show Steps p.tables e below (T18.setTop (mkF m 58 #[.val (.int p1), .val (.int ((p1 &&& (2147483647 : Int32)) % (6 : Int32))), .val (.ref (f1 ((p1 &&& (2147483647 : Int32)) % (6 : Int32)) w_CONVENTIONAL w_SIMPLE_INTEREST w_PAYMENT_SCHEDULE w_LEVEL_PRINCIPAL w_OTHER w_PAYMENT_PATTERN)), .val (.int (1 : Int32))] [(.int (0 : Int32))])) _
            exact retN X18 hx (t := .boolean) Bd.returns (by simp) (hb hby at_58) hr
          · show Q0 Z p1 w_CONVENTIONAL w_SIMPLE_INTEREST w_LEVEL_PRINCIPAL w_OTHER w_PAYMENT_SCHEDULE w_PAYMENT_PATTERN h0 n0 _ T18.heap _
            rw [e18]
            exact ⟨(by unfold f0; rw [if_neg hc5, if_neg hc11, if_pos hc17, if_neg hc21]), N19⟩
      ·  -- pc 35: not ((p1 &&& (2147483647 : Int32)) % (6 : Int32)) = (4 : Int32)
        -- pc 46: AmortizationType.allowsInterestInAdvance by rm2
        obtain ⟨cq22, kq22, q22a, q22b, q22c⟩ := isOf hZ e1 ee3
        obtain ⟨_, _, ⟨T22, L22, k22, n22⟩, -, X22, ⟨Lc22, hQ22, l22, y22, z22⟩, st22⟩ := X1.virtualBack hx (y := (⟨"com/example/tenorcast/tenorcast/engine/AmortizationType", "allowsInterestInAdvance", "()Z"⟩ : MethodName)) (z := (⟨"com/example/tenorcast/tenorcast/engine/AmortizationType", "allowsInterestInAdvance", "()Z"⟩ : MethodName)) hown (mvT hZ (hw _ (List.mem_of_getElem? (i := 8) rfl))) (mvT hZ (hw _ (List.mem_of_getElem? (i := 9) rfl))) (notFace_of_selects (args := #[]) (mvT hZ (hw _ (List.mem_of_getElem? (i := 11) rfl)))) (mvT hZ (hw _ (List.mem_of_getElem? (i := 11) rfl))) (mvT hZ (hw _ (List.mem_of_getElem? (i := 10) rfl))) (by decide) (backOf (W := 0) (rm2 l Z a0 hw [] (f1 ((p1 &&& (2147483647 : Int32)) % (6 : Int32)) w_CONVENTIONAL w_SIMPLE_INTEREST w_PAYMENT_SCHEDULE w_LEVEL_PRINCIPAL w_OTHER w_PAYMENT_PATTERN) w_SIMPLE_INTEREST w_LEVEL_PRINCIPAL w_OTHER h0 n0 Z0 (S_SIMPLE_INTEREST.ext O0.2) (S_LEVEL_PRINCIPAL.ext O0.2) (S_OTHER.ext O0.2)) hZ (hw _ (List.mem_of_getElem? (i := 12) rfl)) (hw _ (List.mem_of_getElem? (i := 6) rfl)) (by decide) (by decide)) q22a q22c (g := (mkF m 46 #[.val (.int p1), .val (.int ((p1 &&& (2147483647 : Int32)) % (6 : Int32))), .val (.ref (f1 ((p1 &&& (2147483647 : Int32)) % (6 : Int32)) w_CONVENTIONAL w_SIMPLE_INTEREST w_PAYMENT_SCHEDULE w_LEVEL_PRINCIPAL w_OTHER w_PAYMENT_PATTERN)), .val (.int (0 : Int32))] [(.ref (f1 ((p1 &&& (2147483647 : Int32)) % (6 : Int32)) w_CONVENTIONAL w_SIMPLE_INTEREST w_PAYMENT_SCHEDULE w_LEVEL_PRINCIPAL w_OTHER w_PAYMENT_PATTERN))])) rfl (by rw [hml]; rfl) (Steps.refl _) (argsL := []) (rest := []) (lenOf pd_42 rfl) rfl (by show 2 * 0 + _ ≤ _; exact Nat.le_of_eq rfl) (hb hby at_46) (fun _ _ => ⟨rfl, e1, (by decide : 0 + 0 ≤ _), (by decide : 0 + 0 ≤ _)⟩)
        dsimp only [Pt.U, Pt.locs, Pt.cells, Pt.slots] at X22 l22 y22 z22 st22 hQ22
        subst l22 y22 z22
        obtain ⟨rfl, N22q, e22⟩ := hQ22
        have N23 := Fr.app N2 N22q
        have pre24 : ∀ t, Steps p.tables e below (T22.setTop (mkF m 50 #[.val (.int p1), .val (.int ((p1 &&& (2147483647 : Int32)) % (6 : Int32))), .val (.ref (f1 ((p1 &&& (2147483647 : Int32)) % (6 : Int32)) w_CONVENTIONAL w_SIMPLE_INTEREST w_PAYMENT_SCHEDULE w_LEVEL_PRINCIPAL w_OTHER w_PAYMENT_PATTERN)), .val (.int (0 : Int32))] [(.int (0 : Int32)), (.int (f2 (f1 ((p1 &&& (2147483647 : Int32)) % (6 : Int32)) w_CONVENTIONAL w_SIMPLE_INTEREST w_PAYMENT_SCHEDULE w_LEVEL_PRINCIPAL w_OTHER w_PAYMENT_PATTERN) w_SIMPLE_INTEREST w_LEVEL_PRINCIPAL w_OTHER))])) t → Steps p.tables e below (s₁.setTop (entryFrame m #[(.int p1)] maxLocals)) t := fun t k => pre16 t (by
          show Steps p.tables e below (T1.setTop (mkF m 35 #[.val (.int p1), .val (.int ((p1 &&& (2147483647 : Int32)) % (6 : Int32))), .val (.ref (f1 ((p1 &&& (2147483647 : Int32)) % (6 : Int32)) w_CONVENTIONAL w_SIMPLE_INTEREST w_PAYMENT_SCHEDULE w_LEVEL_PRINCIPAL w_OTHER w_PAYMENT_PATTERN)), .unset] [(.int (4 : Int32)), (.int ((p1 &&& (2147483647 : Int32)) % (6 : Int32)))])) _
          refine XS.icmpYes X1.here hx rfl (pc0 := 35) (pc' := 43) rfl (hb hby at_35) rfl (feq hc17).2 (by decide) (by decide) ?_
          show Steps p.tables e below (T1.setTop (mkF m 43 #[.val (.int p1), .val (.int ((p1 &&& (2147483647 : Int32)) % (6 : Int32))), .val (.ref (f1 ((p1 &&& (2147483647 : Int32)) % (6 : Int32)) w_CONVENTIONAL w_SIMPLE_INTEREST w_PAYMENT_SCHEDULE w_LEVEL_PRINCIPAL w_OTHER w_PAYMENT_PATTERN)), .unset] [])) _
          refine XS.iconst X1.here hx rfl (hb hby at_43) ?_
          show Steps p.tables e below (T1.setTop (mkF m 44 #[.val (.int p1), .val (.int ((p1 &&& (2147483647 : Int32)) % (6 : Int32))), .val (.ref (f1 ((p1 &&& (2147483647 : Int32)) % (6 : Int32)) w_CONVENTIONAL w_SIMPLE_INTEREST w_PAYMENT_SCHEDULE w_LEVEL_PRINCIPAL w_OTHER w_PAYMENT_PATTERN)), .unset] [(.int (0 : Int32))])) _
          refine XS.istoreN X1.here hx rfl (hb hby at_44) rfl (l' := #[.val (.int p1), .val (.int ((p1 &&& (2147483647 : Int32)) % (6 : Int32))), .val (.ref (f1 ((p1 &&& (2147483647 : Int32)) % (6 : Int32)) w_CONVENTIONAL w_SIMPLE_INTEREST w_PAYMENT_SCHEDULE w_LEVEL_PRINCIPAL w_OTHER w_PAYMENT_PATTERN)), .val (.int (0 : Int32))]) rfl ?_
          show Steps p.tables e below (T1.setTop (mkF m 45 #[.val (.int p1), .val (.int ((p1 &&& (2147483647 : Int32)) % (6 : Int32))), .val (.ref (f1 ((p1 &&& (2147483647 : Int32)) % (6 : Int32)) w_CONVENTIONAL w_SIMPLE_INTEREST w_PAYMENT_SCHEDULE w_LEVEL_PRINCIPAL w_OTHER w_PAYMENT_PATTERN)), .val (.int (0 : Int32))] [])) _
          refine XS.aloadN X1.here hx rfl (hb hby at_45) rfl rfl ?_
          show Steps p.tables e below (T1.setTop (mkF m 46 #[.val (.int p1), .val (.int ((p1 &&& (2147483647 : Int32)) % (6 : Int32))), .val (.ref (f1 ((p1 &&& (2147483647 : Int32)) % (6 : Int32)) w_CONVENTIONAL w_SIMPLE_INTEREST w_PAYMENT_SCHEDULE w_LEVEL_PRINCIPAL w_OTHER w_PAYMENT_PATTERN)), .val (.int (0 : Int32))] [(.ref (f1 ((p1 &&& (2147483647 : Int32)) % (6 : Int32)) w_CONVENTIONAL w_SIMPLE_INTEREST w_PAYMENT_SCHEDULE w_LEVEL_PRINCIPAL w_OTHER w_PAYMENT_PATTERN))])) _
          refine st22.trans ?_
          show Steps p.tables e below (T22.setTop (mkF m 49 #[.val (.int p1), .val (.int ((p1 &&& (2147483647 : Int32)) % (6 : Int32))), .val (.ref (f1 ((p1 &&& (2147483647 : Int32)) % (6 : Int32)) w_CONVENTIONAL w_SIMPLE_INTEREST w_PAYMENT_SCHEDULE w_LEVEL_PRINCIPAL w_OTHER w_PAYMENT_PATTERN)), .val (.int (0 : Int32))] [(.int (f2 (f1 ((p1 &&& (2147483647 : Int32)) % (6 : Int32)) w_CONVENTIONAL w_SIMPLE_INTEREST w_PAYMENT_SCHEDULE w_LEVEL_PRINCIPAL w_OTHER w_PAYMENT_PATTERN) w_SIMPLE_INTEREST w_LEVEL_PRINCIPAL w_OTHER))])) _
          refine XS.iloadN X22.here hx rfl (hb hby at_49) rfl ?_
          exact k)
        by_cases hc25 : (f2 (f1 ((p1 &&& (2147483647 : Int32)) % (6 : Int32)) w_CONVENTIONAL w_SIMPLE_INTEREST w_PAYMENT_SCHEDULE w_LEVEL_PRINCIPAL w_OTHER w_PAYMENT_PATTERN) w_SIMPLE_INTEREST w_LEVEL_PRINCIPAL w_OTHER) = (0 : Int32)
        ·  -- pc 50: (f2 (f1 ((p1 &&& (2147483647 : Int32)) % (6 : Int32)) w_CONVENTIONAL w_SIMPLE_INTEREST w_PAYMENT_SCHEDULE w_LEVEL_PRINCIPAL w_OTHER w_PAYMENT_PATTERN) w_SIMPLE_INTEREST w_LEVEL_PRINCIPAL w_OTHER) = (0 : Int32)
          obtain ⟨fs, hr, hrun, hended, hW, hsame⟩ := X22.leave (v := some (.int (1 : Int32))) (fun h => by rw [Bd.returns] at h; cases h)
          refine ⟨_, _, pre24 _ ?_, hrun, hended, _, _, rfl, ?_, ⟨_, rfl⟩, hW, hsame.mono (by decide) (by decide)⟩
          · show Steps p.tables e below (T22.setTop (mkF m 50 #[.val (.int p1), .val (.int ((p1 &&& (2147483647 : Int32)) % (6 : Int32))), .val (.ref (f1 ((p1 &&& (2147483647 : Int32)) % (6 : Int32)) w_CONVENTIONAL w_SIMPLE_INTEREST w_PAYMENT_SCHEDULE w_LEVEL_PRINCIPAL w_OTHER w_PAYMENT_PATTERN)), .val (.int (0 : Int32))] [(.int (0 : Int32)), (.int (f2 (f1 ((p1 &&& (2147483647 : Int32)) % (6 : Int32)) w_CONVENTIONAL w_SIMPLE_INTEREST w_PAYMENT_SCHEDULE w_LEVEL_PRINCIPAL w_OTHER w_PAYMENT_PATTERN) w_SIMPLE_INTEREST w_LEVEL_PRINCIPAL w_OTHER))])) _
            refine XS.icmpNo X22.here hx rfl (hb hby at_50) rfl (teq hc25).2 ?_
            show Steps p.tables e below (T22.setTop (mkF m 53 #[.val (.int p1), .val (.int ((p1 &&& (2147483647 : Int32)) % (6 : Int32))), .val (.ref (f1 ((p1 &&& (2147483647 : Int32)) % (6 : Int32)) w_CONVENTIONAL w_SIMPLE_INTEREST w_PAYMENT_SCHEDULE w_LEVEL_PRINCIPAL w_OTHER w_PAYMENT_PATTERN)), .val (.int (0 : Int32))] [])) _
            refine XS.iconst X22.here hx rfl (hb hby at_53) ?_
            show Steps p.tables e below (T22.setTop (mkF m 54 #[.val (.int p1), .val (.int ((p1 &&& (2147483647 : Int32)) % (6 : Int32))), .val (.ref (f1 ((p1 &&& (2147483647 : Int32)) % (6 : Int32)) w_CONVENTIONAL w_SIMPLE_INTEREST w_PAYMENT_SCHEDULE w_LEVEL_PRINCIPAL w_OTHER w_PAYMENT_PATTERN)), .val (.int (0 : Int32))] [(.int (1 : Int32))])) _
            refine XS.goto X22.here hx rfl (pc0 := 54) (pc' := 58) rfl (hb hby at_54) (by decide) (by decide) ?_
            show Steps p.tables e below (T22.setTop (mkF m 58 #[.val (.int p1), .val (.int ((p1 &&& (2147483647 : Int32)) % (6 : Int32))), .val (.ref (f1 ((p1 &&& (2147483647 : Int32)) % (6 : Int32)) w_CONVENTIONAL w_SIMPLE_INTEREST w_PAYMENT_SCHEDULE w_LEVEL_PRINCIPAL w_OTHER w_PAYMENT_PATTERN)), .val (.int (0 : Int32))] [(.int (1 : Int32))])) _
            exact retN X22 hx (t := .boolean) Bd.returns (by simp) (hb hby at_58) hr
          · show Q0 Z p1 w_CONVENTIONAL w_SIMPLE_INTEREST w_LEVEL_PRINCIPAL w_OTHER w_PAYMENT_SCHEDULE w_PAYMENT_PATTERN h0 n0 _ T22.heap _
            rw [e22]
            exact ⟨(by unfold f0; rw [if_neg hc5, if_neg hc11, if_neg hc17, if_pos hc25]), N23⟩
        ·  -- pc 50: not (f2 (f1 ((p1 &&& (2147483647 : Int32)) % (6 : Int32)) w_CONVENTIONAL w_SIMPLE_INTEREST w_PAYMENT_SCHEDULE w_LEVEL_PRINCIPAL w_OTHER w_PAYMENT_PATTERN) w_SIMPLE_INTEREST w_LEVEL_PRINCIPAL w_OTHER) = (0 : Int32)
          obtain ⟨fs, hr, hrun, hended, hW, hsame⟩ := X22.leave (v := some (.int (0 : Int32))) (fun h => by rw [Bd.returns] at h; cases h)
          refine ⟨_, _, pre24 _ ?_, hrun, hended, _, _, rfl, ?_, ⟨_, rfl⟩, hW, hsame.mono (by decide) (by decide)⟩
          · show Steps p.tables e below (T22.setTop (mkF m 50 #[.val (.int p1), .val (.int ((p1 &&& (2147483647 : Int32)) % (6 : Int32))), .val (.ref (f1 ((p1 &&& (2147483647 : Int32)) % (6 : Int32)) w_CONVENTIONAL w_SIMPLE_INTEREST w_PAYMENT_SCHEDULE w_LEVEL_PRINCIPAL w_OTHER w_PAYMENT_PATTERN)), .val (.int (0 : Int32))] [(.int (0 : Int32)), (.int (f2 (f1 ((p1 &&& (2147483647 : Int32)) % (6 : Int32)) w_CONVENTIONAL w_SIMPLE_INTEREST w_PAYMENT_SCHEDULE w_LEVEL_PRINCIPAL w_OTHER w_PAYMENT_PATTERN) w_SIMPLE_INTEREST w_LEVEL_PRINCIPAL w_OTHER))])) _
            refine XS.icmpYes X22.here hx rfl (pc0 := 50) (pc' := 57) rfl (hb hby at_50) rfl (feq hc25).2 (by decide) (by decide) ?_
            show Steps p.tables e below (T22.setTop (mkF m 57 #[.val (.int p1), .val (.int ((p1 &&& (2147483647 : Int32)) % (6 : Int32))), .val (.ref (f1 ((p1 &&& (2147483647 : Int32)) % (6 : Int32)) w_CONVENTIONAL w_SIMPLE_INTEREST w_PAYMENT_SCHEDULE w_LEVEL_PRINCIPAL w_OTHER w_PAYMENT_PATTERN)), .val (.int (0 : Int32))] [])) _
            refine XS.iconst X22.here hx rfl (hb hby at_57) ?_
            show Steps p.tables e below (T22.setTop (mkF m 58 #[.val (.int p1), .val (.int ((p1 &&& (2147483647 : Int32)) % (6 : Int32))), .val (.ref (f1 ((p1 &&& (2147483647 : Int32)) % (6 : Int32)) w_CONVENTIONAL w_SIMPLE_INTEREST w_PAYMENT_SCHEDULE w_LEVEL_PRINCIPAL w_OTHER w_PAYMENT_PATTERN)), .val (.int (0 : Int32))] [(.int (0 : Int32))])) _
            exact retN X22 hx (t := .boolean) Bd.returns (by simp) (hb hby at_58) hr
          · show Q0 Z p1 w_CONVENTIONAL w_SIMPLE_INTEREST w_LEVEL_PRINCIPAL w_OTHER w_PAYMENT_SCHEDULE w_PAYMENT_PATTERN h0 n0 _ T22.heap _
            rw [e22]
            exact ⟨(by unfold f0; rw [if_neg hc5, if_neg hc11, if_neg hc17, if_neg hc25]), N23⟩
theorem own_core (i : Int32) (a b c d e f : Addr) (n0 : a ≠ b) (n1 : c ≠ b) (n2 : d ≠ b) (n3 : e ≠ b) (n4 : f ≠ b) (n5 : a ≠ d) (n6 : c ≠ d) (n7 : e ≠ d) (n8 : f ≠ d) (n9 : a ≠ e) (n10 : c ≠ e) (n11 : f ≠ e) : f2 (f1 i a b c d e f) b d e = if i = 1 then 1 else if i = 3 then 1 else if i = 4 then 1 else 0 := by
  unfold f1 f2
  repeat' split
  all_goals first | rfl | (exfalso; simp_all; done)
theorem law_eq (p : Int32) (w_CONVENTIONAL w_SIMPLE_INTEREST w_LEVEL_PRINCIPAL w_OTHER w_PAYMENT_SCHEDULE w_PAYMENT_PATTERN : Addr) (n0 : w_CONVENTIONAL ≠ w_SIMPLE_INTEREST) (n1 : w_PAYMENT_SCHEDULE ≠ w_SIMPLE_INTEREST) (n2 : w_LEVEL_PRINCIPAL ≠ w_SIMPLE_INTEREST) (n3 : w_OTHER ≠ w_SIMPLE_INTEREST) (n4 : w_PAYMENT_PATTERN ≠ w_SIMPLE_INTEREST) (n5 : w_CONVENTIONAL ≠ w_LEVEL_PRINCIPAL) (n6 : w_PAYMENT_SCHEDULE ≠ w_LEVEL_PRINCIPAL) (n7 : w_OTHER ≠ w_LEVEL_PRINCIPAL) (n8 : w_PAYMENT_PATTERN ≠ w_LEVEL_PRINCIPAL) (n9 : w_CONVENTIONAL ≠ w_OTHER) (n10 : w_PAYMENT_SCHEDULE ≠ w_OTHER) (n11 : w_PAYMENT_PATTERN ≠ w_OTHER) : f0 p w_CONVENTIONAL w_SIMPLE_INTEREST w_LEVEL_PRINCIPAL w_OTHER w_PAYMENT_SCHEDULE w_PAYMENT_PATTERN = 1 := by
  unfold f0
  rw [own_core _ w_CONVENTIONAL w_SIMPLE_INTEREST w_PAYMENT_SCHEDULE w_LEVEL_PRINCIPAL w_OTHER w_PAYMENT_PATTERN n0 n1 n2 n3 n4 n5 n6 n7 n8 n9 n10 n11]
  repeat' split
  all_goals first | rfl | (exfalso; simp_all; done)
set_option maxRecDepth 65536 in
set_option maxHeartbeats 40000000 in
theorem comes_1 {Post : Tables → Env → Array Value → State → Outcome → State → Prop} (hpost : ∀ tb e args s v u, (limb_1_1.after args s (.returned v) u = true ∧ limb_1_2.after args s (.returned v) u = true ∧ True) → FrameEnd s (.returned v) u (Jvm.fieldLocs frame_1_writes args s ++ Jvm.arrayLocs frame_1_arrays args s ++ Jvm.staticLocs frame_1_statics s) 0 0 → Post tb e args s (.returned v) u) :
    ArmFor flags0 classFile x code maxLocals ret World_1 tables_1 room_1 Calls_1 rest_1 Pre_1 Post := by
  intro l hfl _ _ p e ha hc hk s m args below hf hA hF happ hP
  obtain ⟨hcalls, hrest, hpre⟩ := hP
  obtain ⟨-, -, -, hnamed, -, -, -, hat⟩ := (Spec.applies_iff hf).mp happ
  obtain ⟨hg, hn⟩ := and_e (Cond.before_iff.mp (show (Jvm.Cond.and given_1 narrow_1).before args s = true from hpre))
  obtain ⟨gv1, gv2⟩ := and_e hg
  obtain ⟨gv3, gv4⟩ := and_e hn
  obtain ⟨gv5, gv6⟩ := and_e gv4
  obtain ⟨gv7, gv8⟩ := and_e gv6
  obtain ⟨gv9, gv10⟩ := and_e gv8
  obtain ⟨gv11, gv12⟩ := and_e gv10
  obtain ⟨gv13, gv14⟩ := and_e gv12
  obtain ⟨gv15, gv16⟩ := and_e gv14
  obtain ⟨gv17, gv18⟩ := and_e gv16
  obtain ⟨gv19, gv20⟩ := and_e gv18
  obtain ⟨gv21, gv22⟩ := and_e gv20
  obtain ⟨gv23, gv24⟩ := and_e gv22
  obtain ⟨w0, rfl⟩ : ∃ w0 : Value, args = #[w0] := by
    have hs : args.size = 1 := by simpa [Cond.value, given_1] using gv1
    obtain ⟨L⟩ := args
    match L, hs with
    | [w0], _ => exact ⟨w0, rfl⟩
  have hw := fun d (hd : d ∈ tables_1) => atoms_spec (ws := Jvm.Cond.code x code maxLocals ret :: tables_1) hat d (List.mem_cons_of_mem _ hd)
  obtain ⟨i0, ei0⟩ := is_v gv2
  obtain rfl : w0 = (.int i0) := Option.some.inj ei0
  have O0 := Old.start s
  obtain ⟨w_CONVENTIONAL, ev_CONVENTIONAL⟩ := exa_v gv3
  have S_CONVENTIONAL := Sta.start ev_CONVENTIONAL (Or.inr ⟨(hw _ (List.mem_of_getElem? (i := 6) rfl)), (hw _ (List.mem_of_getElem? (i := 7) rfl))⟩)
  have E_w_CONVENTIONAL := Exa.start ev_CONVENTIONAL gv3
  obtain ⟨w_SIMPLE_INTEREST, ev_SIMPLE_INTEREST⟩ := exa_v gv5
  have S_SIMPLE_INTEREST := Sta.start ev_SIMPLE_INTEREST (Or.inr ⟨(hw _ (List.mem_of_getElem? (i := 6) rfl)), (hw _ (List.mem_of_getElem? (i := 14) rfl))⟩)
  have E_w_SIMPLE_INTEREST := Exa.start ev_SIMPLE_INTEREST gv5
  obtain ⟨w_LEVEL_PRINCIPAL, ev_LEVEL_PRINCIPAL⟩ := exa_v gv11
  have S_LEVEL_PRINCIPAL := Sta.start ev_LEVEL_PRINCIPAL (Or.inr ⟨(hw _ (List.mem_of_getElem? (i := 6) rfl)), (hw _ (List.mem_of_getElem? (i := 16) rfl))⟩)
  have E_w_LEVEL_PRINCIPAL := Exa.start ev_LEVEL_PRINCIPAL gv11
  obtain ⟨w_OTHER, ev_OTHER⟩ := exa_v gv15
  have S_OTHER := Sta.start ev_OTHER (Or.inr ⟨(hw _ (List.mem_of_getElem? (i := 6) rfl)), (hw _ (List.mem_of_getElem? (i := 18) rfl))⟩)
  have E_w_OTHER := Exa.start ev_OTHER gv15
  obtain ⟨w_PAYMENT_SCHEDULE, ev_PAYMENT_SCHEDULE⟩ := exa_v gv19
  have S_PAYMENT_SCHEDULE := Sta.start ev_PAYMENT_SCHEDULE (Or.inr ⟨(hw _ (List.mem_of_getElem? (i := 6) rfl)), (hw _ (List.mem_of_getElem? (i := 21) rfl))⟩)
  have E_w_PAYMENT_SCHEDULE := Exa.start ev_PAYMENT_SCHEDULE gv19
  obtain ⟨w_PAYMENT_PATTERN, ev_PAYMENT_PATTERN⟩ := exa_v gv23
  have S_PAYMENT_PATTERN := Sta.start ev_PAYMENT_PATTERN (Or.inr ⟨(hw _ (List.mem_of_getElem? (i := 6) rfl)), (hw _ (List.mem_of_getElem? (i := 24) rfl))⟩)
  have E_w_PAYMENT_PATTERN := Exa.start ev_PAYMENT_PATTERN gv23
  have F_ordinal_w_CONVENTIONAL := own_feq ev_CONVENTIONAL gv7
  have F_ordinal_w_SIMPLE_INTEREST := own_feq ev_SIMPLE_INTEREST gv9
  have F_ordinal_w_LEVEL_PRINCIPAL := own_feq ev_LEVEL_PRINCIPAL gv13
  have F_ordinal_w_OTHER := own_feq ev_OTHER gv17
  have F_ordinal_w_PAYMENT_SCHEDULE := own_feq ev_PAYMENT_SCHEDULE gv21
  have F_ordinal_w_PAYMENT_PATTERN := own_feq ev_PAYMENT_PATTERN gv24
  have ne_w_CONVENTIONAL_w_SIMPLE_INTEREST := Fld.ne F_ordinal_w_CONVENTIONAL F_ordinal_w_SIMPLE_INTEREST (by decide)
  have ne_w_PAYMENT_SCHEDULE_w_SIMPLE_INTEREST := Fld.ne F_ordinal_w_PAYMENT_SCHEDULE F_ordinal_w_SIMPLE_INTEREST (by decide)
  have ne_w_LEVEL_PRINCIPAL_w_SIMPLE_INTEREST := Fld.ne F_ordinal_w_LEVEL_PRINCIPAL F_ordinal_w_SIMPLE_INTEREST (by decide)
  have ne_w_OTHER_w_SIMPLE_INTEREST := Fld.ne F_ordinal_w_OTHER F_ordinal_w_SIMPLE_INTEREST (by decide)
  have ne_w_PAYMENT_PATTERN_w_SIMPLE_INTEREST := Fld.ne F_ordinal_w_PAYMENT_PATTERN F_ordinal_w_SIMPLE_INTEREST (by decide)
  have ne_w_CONVENTIONAL_w_LEVEL_PRINCIPAL := Fld.ne F_ordinal_w_CONVENTIONAL F_ordinal_w_LEVEL_PRINCIPAL (by decide)
  have ne_w_PAYMENT_SCHEDULE_w_LEVEL_PRINCIPAL := Fld.ne F_ordinal_w_PAYMENT_SCHEDULE F_ordinal_w_LEVEL_PRINCIPAL (by decide)
  have ne_w_OTHER_w_LEVEL_PRINCIPAL := Fld.ne F_ordinal_w_OTHER F_ordinal_w_LEVEL_PRINCIPAL (by decide)
  have ne_w_PAYMENT_PATTERN_w_LEVEL_PRINCIPAL := Fld.ne F_ordinal_w_PAYMENT_PATTERN F_ordinal_w_LEVEL_PRINCIPAL (by decide)
  have ne_w_CONVENTIONAL_w_OTHER := Fld.ne F_ordinal_w_CONVENTIONAL F_ordinal_w_OTHER (by decide)
  have ne_w_PAYMENT_SCHEDULE_w_OTHER := Fld.ne F_ordinal_w_PAYMENT_SCHEDULE F_ordinal_w_OTHER (by decide)
  have ne_w_PAYMENT_PATTERN_w_OTHER := Fld.ne F_ordinal_w_PAYMENT_PATTERN F_ordinal_w_OTHER (by decide)
  obtain ⟨n, o, h1, h2, h3, _, L, rfl, ⟨rfl, N⟩, hq⟩ := rm0 l s _ hw tables_1 i0 w_CONVENTIONAL w_SIMPLE_INTEREST w_LEVEL_PRINCIPAL w_OTHER w_PAYMENT_SCHEDULE w_PAYMENT_PATTERN s.heap s.heap.size (Nat.le_refl _) O0 S_CONVENTIONAL S_SIMPLE_INTEREST S_LEVEL_PRINCIPAL S_OTHER S_PAYMENT_SCHEDULE S_PAYMENT_PATTERN E_w_CONVENTIONAL E_w_SIMPLE_INTEREST E_w_LEVEL_PRINCIPAL E_w_OTHER E_w_PAYMENT_SCHEDULE E_w_PAYMENT_PATTERN F_ordinal_w_CONVENTIONAL F_ordinal_w_SIMPLE_INTEREST F_ordinal_w_LEVEL_PRINCIPAL F_ordinal_w_OTHER F_ordinal_w_PAYMENT_SCHEDULE F_ordinal_w_PAYMENT_PATTERN ne_w_CONVENTIONAL_w_SIMPLE_INTEREST ne_w_PAYMENT_SCHEDULE_w_SIMPLE_INTEREST ne_w_LEVEL_PRINCIPAL_w_SIMPLE_INTEREST ne_w_OTHER_w_SIMPLE_INTEREST ne_w_PAYMENT_PATTERN_w_SIMPLE_INTEREST ne_w_CONVENTIONAL_w_LEVEL_PRINCIPAL ne_w_PAYMENT_SCHEDULE_w_LEVEL_PRINCIPAL ne_w_OTHER_w_LEVEL_PRINCIPAL ne_w_PAYMENT_PATTERN_w_LEVEL_PRINCIPAL ne_w_CONVENTIONAL_w_OTHER ne_w_PAYMENT_SCHEDULE_w_OTHER ne_w_PAYMENT_PATTERN_w_OTHER p e ha hc hk s m _ below hf ((Spec.applies_iff_loose hf).mp happ).1 ⟨rfl, State.Warmed39.refl s, rfl⟩ trivial
  refine ⟨n, _, h1, h2, h3, hpost _ _ _ _ _ _ ⟨Cond.after_iff.mpr rfl, Cond.after_iff.mpr (eq_i res_at (Term.int_eval (1)) (congrArg Value.int (law_eq i0 w_CONVENTIONAL w_SIMPLE_INTEREST w_LEVEL_PRINCIPAL w_OTHER w_PAYMENT_SCHEDULE w_PAYMENT_PATTERN ne_w_CONVENTIONAL_w_SIMPLE_INTEREST ne_w_PAYMENT_SCHEDULE_w_SIMPLE_INTEREST ne_w_LEVEL_PRINCIPAL_w_SIMPLE_INTEREST ne_w_OTHER_w_SIMPLE_INTEREST ne_w_PAYMENT_PATTERN_w_SIMPLE_INTEREST ne_w_CONVENTIONAL_w_LEVEL_PRINCIPAL ne_w_PAYMENT_SCHEDULE_w_LEVEL_PRINCIPAL ne_w_OTHER_w_LEVEL_PRINCIPAL ne_w_PAYMENT_PATTERN_w_LEVEL_PRINCIPAL ne_w_CONVENTIONAL_w_OTHER ne_w_PAYMENT_SCHEDULE_w_OTHER ne_w_PAYMENT_PATTERN_w_OTHER))), trivial⟩ ⟨hq.1, hq.2.1, (hq.2.2.sift fun y hy => Or.inr (N y hy)).mono (by decide) (by decide)⟩⟩
theorem main_1_1 : Claimed_1_1 := comes_1 fun _ _ _ _ _ _ h hF => ⟨h.1, hF⟩
theorem main_1_2 : Claimed_1_2 := comes_1 fun _ _ _ _ _ _ h hF => ⟨h.2.1, hF⟩
end Jvm.Pilot.@@N@@
namespace Jvm.Pilot.@@N@@
open Jvm Jvm.ClassFile Sem Op Lib Jvm.Free Jvm.Stand Jvm.Pilot.@@N@@.Jvm.D
/-! MADE BY PROGRAM (witnessworld.py) out of the Statement's table words and the real class files: 13 classes; the members and pool entries that the words name. The judged class is class 1, her method 2. -/
namespace start1
open Jvm.ClassFile
def u (s : String) : CpInfo := .utf8 (stringToUtf16 s)
/-- a pool by its gaps: so many unusable entries, then the entry; so many at the end -/
def gap : Nat → List CpInfo → List CpInfo
  | 0, r => r
  | n + 1, r => .unusable :: gap n r
def poolList (es : List (Nat × CpInfo)) (last : Nat) : List CpInfo := es.foldr (fun e r => gap e.1 (e.2 :: r)) (gap last [])
def pool (es : List (Nat × CpInfo)) (last : Nat) : Array CpInfo := ⟨poolList es last⟩
def fileOf (pool : Array CpInfo) (this : Nat) (attrs : Array Attribute := #[]) (ms : Array MethodInfo := #[]) (fl : Nat := 33) (sup : Nat := 0) (ifs : Array Nat := #[]) (fds : Array FieldInfo := #[]) : ClassFile where
  minorVersion := 0
  majorVersion := 65
  constantPool := pool
  accessFlags := fl
  thisClass := this
  superClass := sup
  interfaces := ifs
  fields := fds
  methods := ms
  attributes := attrs
def plain (name : String) (sup : Option ClassId) : Class where
  name := name
  kind := .ordinary
  loader := none
  accessFlags := 33
  super := sup
  interfaces := #[]
  cf := none
  fields := #[]
  methods := #[]
  instanceTypes := #[]
  staticTypes := #[]
  resolved := #[]
  callSites := []
  init := .initialized
  statics := none
  mirror := none

def pool0 : Array CpInfo := pool [(5, u "<init>"), (0, u "()V"), (1, .class_ 10), (1, u "java/lang/Object")] 113

def k0m0 : Method := { name := "<init>", desc := "()V", sig := { parameters := [], returnType := none }, accessFlags := 1, code := none }
/-- java/lang/Object -/
def k0 : Class := { plain "java/lang/Object" none with
  accessFlags := 33
  interfaces := #[]
  cf := some (fileOf pool0 8 #[] #[{ accessFlags := 1, nameIndex := 5, descriptorIndex := 6, attributes := #[] }] 33 0 #[] #[])
  fields := #[]
  methods := #[k0m0]
  instanceTypes := #[]
  staticTypes := #[]
  resolved := Array.replicate 124 none
  statics := none }

def pool1 : Array CpInfo := pool [(2, .class_ 4), (1, u "java/lang/Object"), (0, u "<init>"), (0, u "()V"), (0, .fieldref 8 9), (0, .class_ 10), (0, .nameAndType 11 12), (0, u "com/example/tenorcast/tenorcast/engine/AmortizationType"), (0, u "CONVENTIONAL"), (0, u "Lcom/example/tenorcast/tenorcast/engine/AmortizationType;"), (0, .fieldref 8 14), (0, .nameAndType 15 12), (0, u "SIMPLE_INTEREST"), (0, .fieldref 8 17), (0, .nameAndType 18 12), (0, u "PAYMENT_SCHEDULE"), (0, .fieldref 8 20), (0, .nameAndType 21 12), (0, u "LEVEL_PRINCIPAL"), (0, .fieldref 8 23), (0, .nameAndType 24 12), (0, u "OTHER"), (0, .fieldref 8 26), (0, .nameAndType 27 12), (0, u "PAYMENT_PATTERN"), (0, .integer 2147483647), (0, .methodref 30 31), (0, .class_ 32), (0, .nameAndType 33 34), (0, u "com/example/tenorcast/tenorcast/engine/AmortizationTypeAllowsInterestInAdvancePinLaw"), (0, u "pick"), (0, u "(I)Lcom/example/tenorcast/tenorcast/engine/AmortizationType;"), (0, .methodref 8 36), (0, .nameAndType 37 38), (0, u "allowsInterestInAdvance"), (0, u "()Z"), (3, u "law"), (0, u "(I)Z")] 2

def k1m0 : Method := { name := "<init>", desc := "()V", sig := { parameters := [], returnType := none }, accessFlags := 2, code := none }
def k1c1 : Code := { maxStack := 2, maxLocals := 1, code := method_2_code, exceptionTable := #[], attributes := #[] }
def k1m1 : Method := { name := "pick", desc := "(I)Lcom/example/tenorcast/tenorcast/engine/AmortizationType;", sig := { parameters := [.int], returnType := some (.object "com/example/tenorcast/tenorcast/engine/AmortizationType") }, accessFlags := 10, code := some k1c1 }
def k1c2 : Code := { maxStack := 2, maxLocals := 4, code := code, exceptionTable := #[], attributes := #[] }
def k1m2 : Method := { name := "law", desc := "(I)Z", sig := { parameters := [.int], returnType := some .boolean }, accessFlags := 9, code := some k1c2 }
/-- com/example/tenorcast/tenorcast/engine/AmortizationTypeAllowsInterestInAdvancePinLaw -/
def k1 : Class := { plain "com/example/tenorcast/tenorcast/engine/AmortizationTypeAllowsInterestInAdvancePinLaw" (some 0) with
  accessFlags := 49
  interfaces := #[]
  cf := some (fileOf pool1 30 #[] #[{ accessFlags := 2, nameIndex := 5, descriptorIndex := 6, attributes := #[] }, { accessFlags := 10, nameIndex := 33, descriptorIndex := 34, attributes := #[] }, { accessFlags := 9, nameIndex := 42, descriptorIndex := 43, attributes := #[] }] 49 2 #[] #[])
  fields := #[]
  methods := #[k1m0, k1m1, k1m2]
  instanceTypes := #[]
  staticTypes := #[]
  resolved := Array.replicate 46 none
  statics := none }

def pool2 : Array CpInfo := pool [(1, .class_ 2), (0, u "java/lang/constant/Constable"), (0, .class_ 4), (0, u "java/lang/Object")] 6

/-- java/lang/constant/Constable -/
def k2 : Class := { plain "java/lang/constant/Constable" (some 0) with
  accessFlags := 1537
  interfaces := #[]
  cf := some (fileOf pool2 1 #[] #[] 1537 3 #[] #[])
  fields := #[]
  methods := #[]
  instanceTypes := #[]
  staticTypes := #[]
  resolved := Array.replicate 11 none
  statics := none }

def pool3 : Array CpInfo := pool [(1, .class_ 2), (0, u "java/lang/Comparable"), (0, .class_ 4), (0, u "java/lang/Object")] 7

/-- java/lang/Comparable -/
def k3 : Class := { plain "java/lang/Comparable" (some 0) with
  accessFlags := 1537
  interfaces := #[]
  cf := some (fileOf pool3 1 #[] #[] 1537 3 #[] #[])
  fields := #[]
  methods := #[]
  instanceTypes := #[]
  staticTypes := #[]
  resolved := Array.replicate 12 none
  statics := none }

def pool4 : Array CpInfo := pool [(1, .class_ 2), (0, u "java/io/Serializable"), (0, .class_ 4), (0, u "java/lang/Object")] 2

/-- java/io/Serializable -/
def k4 : Class := { plain "java/io/Serializable" (some 0) with
  accessFlags := 1537
  interfaces := #[]
  cf := some (fileOf pool4 1 #[] #[] 1537 3 #[] #[])
  fields := #[]
  methods := #[]
  instanceTypes := #[]
  staticTypes := #[]
  resolved := Array.replicate 7 none
  statics := none }

def pool5 : Array CpInfo := pool [(2, .class_ 4), (1, u "java/lang/Enum"), (0, u "name"), (0, u "Ljava/lang/String;"), (2, u "ordinal"), (0, u "I"), (1, .class_ 14), (1, u "java/lang/Object"), (4, u "hash"), (86, .class_ 108), (1, u "java/lang/Enum$EnumDesc"), (2, .class_ 112), (0, u "java/lang/constant/Constable"), (0, .class_ 114), (0, u "java/lang/Comparable"), (0, .class_ 116), (0, u "java/io/Serializable")] 87

/-- java/lang/Enum -/
def k5 : Class := { plain "java/lang/Enum" (some 0) with
  accessFlags := 1057
  interfaces := #[2, 3, 4]
  cf := some (fileOf pool5 2 #[.nestMembers #[106]] #[] 1057 12 #[111, 113, 115] #[{ accessFlags := 18, nameIndex := 5, descriptorIndex := 6, attributes := #[] }, { accessFlags := 18, nameIndex := 9, descriptorIndex := 10, attributes := #[] }, { accessFlags := 2, nameIndex := 19, descriptorIndex := 10, attributes := #[] }])
  fields := #[{ name := "name", type := (.object "java/lang/String"), accessFlags := 18, slot := 0, constantValue := 0 }, { name := "ordinal", type := .int, accessFlags := 18, slot := 1, constantValue := 0 }, { name := "hash", type := .int, accessFlags := 2, slot := 2, constantValue := 0 }]
  methods := #[]
  instanceTypes := #[(.object "java/lang/String"), .int, .int]
  staticTypes := #[]
  resolved := Array.replicate 204 none
  statics := none }

def pool6 : Array CpInfo := pool [(9, .class_ 10), (0, u "com/example/tenorcast/tenorcast/engine/Coded"), (60, .class_ 72), (0, u "java/lang/Object")] 38

/-- com/example/tenorcast/tenorcast/engine/Coded -/
def k6 : Class := { plain "com/example/tenorcast/tenorcast/engine/Coded" (some 0) with
  accessFlags := 1537
  interfaces := #[]
  cf := some (fileOf pool6 9 #[] #[] 1537 71 #[] #[])
  fields := #[]
  methods := #[]
  instanceTypes := #[]
  staticTypes := #[]
  resolved := Array.replicate 111 none
  statics := none }

def pool7 : Array CpInfo := pool [(1, .class_ 2), (0, u "com/example/tenorcast/tenorcast/engine/AmortizationType"), (2, u "CONVENTIONAL"), (0, u "Lcom/example/tenorcast/tenorcast/engine/AmortizationType;"), (0, .fieldref 1 8), (0, .nameAndType 9 6), (0, u "SIMPLE_INTEREST"), (2, u "PAYMENT_SCHEDULE"), (0, .fieldref 1 14), (0, .nameAndType 15 6), (0, u "LEVEL_PRINCIPAL"), (0, .fieldref 1 17), (0, .nameAndType 18 6), (0, u "OTHER"), (2, u "PAYMENT_PATTERN"), (2, u "$VALUES"), (0, u "[Lcom/example/tenorcast/tenorcast/engine/AmortizationType;"), (6, .class_ 34), (1, u "java/lang/Enum"), (8, u "description"), (0, u "Ljava/lang/String;"), (8, u "codes"), (0, u "Ljava/util/List;"), (84, .class_ 140), (0, u "com/example/tenorcast/tenorcast/engine/Coded"), (12, u "allowsInterestInAdvance"), (0, u "()Z")] 24

def k7c0 : Code := { maxStack := 2, maxLocals := 1, code := prog_13_method_7_code, exceptionTable := #[], attributes := #[] }
def k7m0 : Method := { name := "allowsInterestInAdvance", desc := "()Z", sig := { parameters := [], returnType := some .boolean }, accessFlags := 1, code := some k7c0 }
/-- com/example/tenorcast/tenorcast/engine/AmortizationType -/
def k7 : Class := { plain "com/example/tenorcast/tenorcast/engine/AmortizationType" (some 5) with
  accessFlags := 16433
  interfaces := #[6]
  cf := some (fileOf pool7 1 #[] #[{ accessFlags := 1, nameIndex := 153, descriptorIndex := 154, attributes := #[] }] 16433 32 #[139] #[{ accessFlags := 16409, nameIndex := 5, descriptorIndex := 6, attributes := #[] }, { accessFlags := 16409, nameIndex := 9, descriptorIndex := 6, attributes := #[] }, { accessFlags := 16409, nameIndex := 12, descriptorIndex := 6, attributes := #[] }, { accessFlags := 16409, nameIndex := 15, descriptorIndex := 6, attributes := #[] }, { accessFlags := 16409, nameIndex := 18, descriptorIndex := 6, attributes := #[] }, { accessFlags := 16409, nameIndex := 21, descriptorIndex := 6, attributes := #[] }, { accessFlags := 18, nameIndex := 43, descriptorIndex := 44, attributes := #[] }, { accessFlags := 18, nameIndex := 53, descriptorIndex := 54, attributes := #[] }, { accessFlags := 4122, nameIndex := 24, descriptorIndex := 25, attributes := #[] }])
  fields := #[{ name := "CONVENTIONAL", type := (.object "com/example/tenorcast/tenorcast/engine/AmortizationType"), accessFlags := 16409, slot := 0, constantValue := 0 }, { name := "SIMPLE_INTEREST", type := (.object "com/example/tenorcast/tenorcast/engine/AmortizationType"), accessFlags := 16409, slot := 1, constantValue := 0 }, { name := "PAYMENT_SCHEDULE", type := (.object "com/example/tenorcast/tenorcast/engine/AmortizationType"), accessFlags := 16409, slot := 2, constantValue := 0 }, { name := "LEVEL_PRINCIPAL", type := (.object "com/example/tenorcast/tenorcast/engine/AmortizationType"), accessFlags := 16409, slot := 3, constantValue := 0 }, { name := "OTHER", type := (.object "com/example/tenorcast/tenorcast/engine/AmortizationType"), accessFlags := 16409, slot := 4, constantValue := 0 }, { name := "PAYMENT_PATTERN", type := (.object "com/example/tenorcast/tenorcast/engine/AmortizationType"), accessFlags := 16409, slot := 5, constantValue := 0 }, { name := "description", type := (.object "java/lang/String"), accessFlags := 18, slot := 3, constantValue := 0 }, { name := "codes", type := (.object "java/util/List"), accessFlags := 18, slot := 4, constantValue := 0 }, { name := "$VALUES", type := (.array (.object "com/example/tenorcast/tenorcast/engine/AmortizationType")), accessFlags := 4122, slot := 6, constantValue := 0 }]
  methods := #[k7m0]
  instanceTypes := #[(.object "java/lang/String"), .int, .int, (.object "java/lang/String"), (.object "java/util/List")]
  staticTypes := #[(.object "com/example/tenorcast/tenorcast/engine/AmortizationType"), (.object "com/example/tenorcast/tenorcast/engine/AmortizationType"), (.object "com/example/tenorcast/tenorcast/engine/AmortizationType"), (.object "com/example/tenorcast/tenorcast/engine/AmortizationType"), (.object "com/example/tenorcast/tenorcast/engine/AmortizationType"), (.object "com/example/tenorcast/tenorcast/engine/AmortizationType"), (.array (.object "com/example/tenorcast/tenorcast/engine/AmortizationType"))]
  resolved := Array.replicate 179 none
  statics := some 0 }

def pool8 : Array CpInfo := pool [(1, u "java/lang/Cloneable"), (0, .class_ 1), (0, u "java/lang/Object"), (0, .class_ 3)] 3

/-- java/lang/Cloneable -/
def k8 : Class := { plain "java/lang/Cloneable" (some 0) with
  accessFlags := 1537
  interfaces := #[]
  cf := some (fileOf pool8 2 #[] #[] 1537 4 #[] #[])
  fields := #[]
  methods := #[]
  instanceTypes := #[]
  staticTypes := #[]
  resolved := Array.replicate 8 none
  statics := none }

/-- the primitive byte -/
def k9 : Class := { plain "byte" none with kind := .primitive 'B', accessFlags := 0x411 }
/-- [B -/
def k10 : Class := { plain "[B" (some 0) with kind := .array 9 .byte, interfaces := #[8, 4], accessFlags := 1041 }

/-- the primitive int -/
def k11 : Class := { plain "int" none with kind := .primitive 'I', accessFlags := 0x411 }
/-- [I -/
def k12 : Class := { plain "[I" (some 0) with kind := .array 11 .int, interfaces := #[8, 4], accessFlags := 1041 }

def heap : Heap := #[{ cls := 7, slots := #[.ref 1, .ref 2, .ref 5, .ref 3, .ref 4, .ref 6, .null], vm := .statics 7 },
  { cls := 7, slots := #[.null, .int 0, .int 0, .null, .null], vm := .none },
  { cls := 7, slots := #[.null, .int 1, .int 0, .null, .null], vm := .none },
  { cls := 7, slots := #[.null, .int 3, .int 0, .null, .null], vm := .none },
  { cls := 7, slots := #[.null, .int 4, .int 0, .null, .null], vm := .none },
  { cls := 7, slots := #[.null, .int 2, .int 0, .null, .null], vm := .none },
  { cls := 7, slots := #[.null, .int 5, .int 0, .null, .null], vm := .none }]
def classes : Array Class := #[k0, k1, k2, k3, k4, k5, k6, k7, k8, k9, k10, k11, k12]
def interned : List (Array UInt16 × Addr) := []
def slotsUsed : Nat := 37
def theMethod : MethodId := ⟨1, 2⟩
def args0 : Array Value := #[.int 3]
def aboutOver (below : List Frame) : State where
  vm := { classes := classes, interned := interned.toArray }
  heap := heap
  slotsUsed := slotsUsed
  threads := #[{ frames := .invoking theMethod args0 :: below }]
def below0 : List Frame := [.native { method := ⟨0, 0⟩, args := #[] }]
def about1 : State := aboutOver below0
def p0 : Program := .bare "" "" ""
def e0 : Env := launch0.env 0 0 0
theorem w_frames : about1.frames = Frame.invoking theMethod args0 :: below0 := rfl
set_option maxRecDepth 65536 in
theorem w_args : argsFit about1.vm theMethod args0 = true := by decide +kernel
set_option maxRecDepth 65536 in
theorem w_heap : heapFits about1 = true := by decide +kernel
set_option maxRecDepth 65536 in
theorem w_runnable : about1.curStatus? = some .runnable := by decide +kernel
set_option maxRecDepth 65536 in
theorem w_alone : about1.alone = true := by decide +kernel
set_option maxRecDepth 65536 in
theorem w_named : about1.methodNamed? x = some theMethod := by decide +kernel
set_option maxRecDepth 65536 in
theorem w_hears : about1.hears theMethod below0 = true := by decide +kernel
set_option maxRecDepth 65536 in
theorem w_ripe : about1.ripe theMethod args0 below0 = true := by decide +kernel
theorem w_running : about1.status = .running := rfl
set_option maxRecDepth 65536 in
theorem w_room : about1.hasRoom e0.platform room_1 = true :=
  launch0.hasRoom_least _ room_1 (by decide +kernel) (by decide +kernel) (by decide +kernel) (by decide +kernel) (by decide +kernel) (by decide +kernel)
theorem allAtoms_all (ts : List Jvm.Cond) (a : Array Jvm.Value) (st : Jvm.State) : (allAtoms ts).before a st = ts.all (fun c => c.before a st) := by
  induction ts with
  | nil => rfl
  | cons c t ih =>
    show (Jvm.Cond.and c (allAtoms t)).before a st = _
    rw [Jvm.Cond.before_and, ih, List.all_cons]
def words1 : List Jvm.Cond := Jvm.Cond.code x code maxLocals ret :: tables_1
/-- a 'code' word, met by the world's own term for the bytes: nothing is compared byte by byte -/
theorem code_word {y : MethodName} {bytes : ByteArray} {mx : Nat} {rt : Option FieldType} {a : Array Value} {s : State} {m : MethodId} {meth : Method} {c : Code} (h1 : s.methodNamed? y = some m) (h2 : s.vm.method? m = some meth) (h3 : meth.code = some c) (h4 : c.code = bytes)
    (h5 : (c.maxLocals == mx && c.exceptionTable.isEmpty && decide (c.maxStack ≤ mostOperands) && decide (meth.sig.returnType = rt) && !meth.locks && decide (parseMethodDescriptor y.desc = some meth.sig)) = true) : (Jvm.Cond.code y bytes mx rt).before a s = true := by
  simp only [Bool.and_eq_true, beq_iff_eq, Bool.not_eq_true', decide_eq_true_eq] at h5
  obtain ⟨⟨⟨⟨⟨g1, g2⟩, g3⟩, g4⟩, g5⟩, g6⟩ := h5
  simp [Cond.before, Cond.holds, Cond.value, h1, h2, h3, h4, g1, g2, g3, g4, g5, g6]
def isCode : Jvm.Cond → Bool
  | .code _ _ _ _ => true
  | _ => false
theorem all_split {L : List Jvm.Cond} {P : Jvm.Cond → Bool} (h1 : L.all (fun c => isCode c || P c) = true) (h2 : ∀ c ∈ L.filter isCode, P c = true) : L.all P = true := by
  refine List.all_eq_true.mpr fun c hc => ?_
  have h := List.all_eq_true.mp h1 c hc
  rcases Bool.eq_false_or_eq_true (isCode c) with hi | hi
  · exact h2 c (List.mem_filter.mpr ⟨hc, hi⟩)
  · simpa [hi] using h
set_option maxRecDepth 65536 in
theorem w_c0 : (Jvm.Cond.code x code maxLocals ret).before args0 about1 = true := code_word (m := ⟨1, 2⟩) (meth := k1m2) (c := k1c2) (by decide +kernel) rfl rfl rfl (by decide +kernel)
set_option maxRecDepth 65536 in
theorem w_c1 : (Jvm.Cond.code ({ cls := "com/example/tenorcast/tenorcast/engine/AmortizationTypeAllowsInterestInAdvancePinLaw", name := "pick", desc := "(I)Lcom/example/tenorcast/tenorcast/engine/AmortizationType;" } : Jvm.MethodName) method_2_code (1 : Nat) (Option.some (Jvm.ClassFile.FieldType.object "com/example/tenorcast/tenorcast/engine/AmortizationType"))).before args0 about1 = true := code_word (m := ⟨1, 1⟩) (meth := k1m1) (c := k1c1) (by decide +kernel) rfl rfl rfl (by decide +kernel)
set_option maxRecDepth 65536 in
theorem w_c2 : (Jvm.Cond.code ({ cls := "com/example/tenorcast/tenorcast/engine/AmortizationType", name := "allowsInterestInAdvance", desc := "()Z" } : Jvm.MethodName) prog_13_method_7_code (1 : Nat) (Option.some Jvm.ClassFile.FieldType.boolean)).before args0 about1 = true := code_word (m := ⟨7, 0⟩) (meth := k7m0) (c := k7c0) (by decide +kernel) rfl rfl rfl (by decide +kernel)
def codes1 : List Jvm.Cond := [Jvm.Cond.code x code maxLocals ret, Jvm.Cond.code ({ cls := "com/example/tenorcast/tenorcast/engine/AmortizationTypeAllowsInterestInAdvancePinLaw", name := "pick", desc := "(I)Lcom/example/tenorcast/tenorcast/engine/AmortizationType;" } : Jvm.MethodName) method_2_code (1 : Nat) (Option.some (Jvm.ClassFile.FieldType.object "com/example/tenorcast/tenorcast/engine/AmortizationType")), Jvm.Cond.code ({ cls := "com/example/tenorcast/tenorcast/engine/AmortizationType", name := "allowsInterestInAdvance", desc := "()Z" } : Jvm.MethodName) prog_13_method_7_code (1 : Nat) (Option.some Jvm.ClassFile.FieldType.boolean)]
set_option maxRecDepth 65536 in
theorem codes_eq : words1.filter isCode = codes1 := rfl
theorem w_codes : ∀ c ∈ words1.filter isCode, c.before args0 about1 = true := by
  rw [codes_eq]
  intro c hc
  simp only [codes1, List.mem_cons, List.not_mem_nil, or_false] at hc
  rcases hc with rfl | rfl | rfl
  · exact w_c0
  · exact w_c1
  · exact w_c2
set_option maxRecDepth 65536 in
theorem w_t1 : (words1.take 24).all (fun c => isCode c || c.before args0 about1) = true := by decide +kernel
set_option maxRecDepth 65536 in
theorem w_t2 : (words1.drop 24).all (fun c => isCode c || c.before args0 about1) = true := by decide +kernel
theorem w_tables : (allAtoms (Jvm.Cond.code x code maxLocals ret :: tables_1)).before args0 about1 = true := by
  rw [allAtoms_all]
  show words1.all (fun c => c.before args0 about1) = true
  refine all_split ?_ w_codes
  rw [← List.take_append_drop 24 words1, List.all_append, w_t1, w_t2]
  rfl
set_option maxRecDepth 65536 in
theorem w_case : (Jvm.Cond.and given_1 narrow_1).before args0 about1 = true := by decide +kernel
theorem w_applies : (headSpec (Jvm.Cond.code x code maxLocals ret :: tables_1) room_1).applies x e0.platform about1 = true :=
  (Spec.applies_iff w_frames).mpr ⟨w_running, w_runnable, w_alone, w_named, w_hears, w_ripe, w_room, w_tables⟩
theorem atStart : AtStart classFile x code maxLocals ret World_1 tables_1 room_1 Calls_1 rest_1 Pre_1 launch0 p0 e0 about1 theMethod args0 below0 :=
  ⟨lists_1, trivial, launch0.admits_env _ _ _, launch0.least_env, fairChoices_fair.cas, fairChoices_fair.clock, w_frames, w_args, w_heap, w_applies, trivial, trivial, w_case⟩
end start1
theorem witness_1 : WitnessClaimed_1 := ⟨start1.p0, start1.e0, start1.about1, start1.theMethod, start1.args0, start1.below0, start1.atStart⟩
end Jvm.Pilot.@@N@@
