import JvmDerived
import JvmDerived.Pilot.@@N@@Statement
import JvmDerived.Pilot.@@N@@Code
set_option linter.unusedVariables false
set_option linter.unusedSimpArgs false
namespace Jvm.RoadKit
open Sem ClassFile Op Lib Jvm.Stand Jvm.Free Jvm.LawKit
section New
variable {p : Program} {l : Launch} {e : Env} {R : Room} {s : State} {m : MethodId} {args : Array Value} {below : List Frame} {meth : Method} {c : Code} {T : State} {locs : List Loc} {cells slots : Nat}
theorem retI (X : Stand p l e R s m args below meth c T locs cells slots) (hx : p.tables.exec = Jvm.exec) {pc : Nat} {Ls : Array Slot} {z : Int32} {rest : List Value} (hret : meth.sig.returnType = some .int) (hd : decode c.code pc = .ok (.ireturn, 1)) {fs : List Frame}
    (hl : ∀ (f : JFrame) (acts : List Action), f.method = m → f.locked = none → f.entered = [] → (doReturn e (T.setTop f) acts (some (.int z))).1 = T.setFrames fs) : Steps p.tables e below (T.setTop (mkF m pc Ls (.int z :: rest))) (T.setFrames fs) :=
  retOut X hx hret rfl (Or.inl ⟨rfl, Or.inl rfl, _, rfl⟩) hd hl
end New
end Jvm.RoadKit
namespace Jvm.Pilot.@@N@@
open Jvm Jvm.ClassFile Sem Op Lib Jvm.Free Jvm.Stand Jvm.LawKit Jvm.RoadKit Bundle Jvm.Pilot.@@N@@.Jvm.D
theorem pn_0 : plainName "com/example/strict_allowlist/strictallowlist/cli/Names" = true := by first | (simp [plainName, overriddenIn]; done) | decide +kernel
theorem d1_0 : decode prog_49_method_4_code 0 = .ok (.iload_n 0, 1) := by decide +kernel
theorem d1_1 : decode prog_49_method_4_code 1 = .ok (.bipush 9, 2) := by decide +kernel
theorem d1_3 : decode prog_49_method_4_code 3 = .ok (.if_icmp .eq 51, 3) := by decide +kernel
theorem d1_54 : decode prog_49_method_4_code 54 = .ok (.iconst 1, 1) := by decide +kernel
theorem d1_55 : decode prog_49_method_4_code 55 = .ok (.goto 4, 3) := by decide +kernel
theorem d1_59 : decode prog_49_method_4_code 59 = .ok (.ireturn, 1) := by decide +kernel
theorem d1_6 : decode prog_49_method_4_code 6 = .ok (.iload_n 0, 1) := by decide +kernel
theorem d1_7 : decode prog_49_method_4_code 7 = .ok (.bipush 10, 2) := by decide +kernel
theorem d1_9 : decode prog_49_method_4_code 9 = .ok (.if_icmp .eq 45, 3) := by decide +kernel
theorem d1_12 : decode prog_49_method_4_code 12 = .ok (.iload_n 0, 1) := by decide +kernel
theorem d1_13 : decode prog_49_method_4_code 13 = .ok (.bipush 13, 2) := by decide +kernel
theorem d1_15 : decode prog_49_method_4_code 15 = .ok (.if_icmp .eq 39, 3) := by decide +kernel
theorem d1_18 : decode prog_49_method_4_code 18 = .ok (.iload_n 0, 1) := by decide +kernel
theorem d1_19 : decode prog_49_method_4_code 19 = .ok (.bipush 32, 2) := by decide +kernel
theorem d1_21 : decode prog_49_method_4_code 21 = .ok (.if_icmp .lt 9, 3) := by decide +kernel
theorem d1_30 : decode prog_49_method_4_code 30 = .ok (.iload_n 0, 1) := by decide +kernel
theorem d1_31 : decode prog_49_method_4_code 31 = .ok (.ldc 64, 2) := by decide +kernel
theorem d1_33 : decode prog_49_method_4_code 33 = .ok (.if_icmp .lt 9, 3) := by decide +kernel
theorem d1_42 : decode prog_49_method_4_code 42 = .ok (.iload_n 0, 1) := by decide +kernel
theorem d1_43 : decode prog_49_method_4_code 43 = .ok (.ldc 66, 2) := by decide +kernel
theorem d1_45 : decode prog_49_method_4_code 45 = .ok (.if_icmp .lt 13, 3) := by decide +kernel
theorem d1_58 : decode prog_49_method_4_code 58 = .ok (.iconst 0, 1) := by decide +kernel
theorem d1_48 : decode prog_49_method_4_code 48 = .ok (.iload_n 0, 1) := by decide +kernel
theorem d1_49 : decode prog_49_method_4_code 49 = .ok (.ldc 67, 2) := by decide +kernel
theorem d1_51 : decode prog_49_method_4_code 51 = .ok (.if_icmp .gt 7, 3) := by decide +kernel
theorem d1_36 : decode prog_49_method_4_code 36 = .ok (.iload_n 0, 1) := by decide +kernel
theorem d1_37 : decode prog_49_method_4_code 37 = .ok (.ldc 65, 2) := by decide +kernel
theorem d1_39 : decode prog_49_method_4_code 39 = .ok (.if_icmp .le 15, 3) := by decide +kernel
theorem d1_24 : decode prog_49_method_4_code 24 = .ok (.iload_n 0, 1) := by decide +kernel
theorem d1_25 : decode prog_49_method_4_code 25 = .ok (.ldc 63, 2) := by decide +kernel
theorem d1_27 : decode prog_49_method_4_code 27 = .ok (.if_icmp .le 27, 3) := by decide +kernel
theorem ef_1 (m : MethodId) (x0 : Int32) : entryFrame m #[(.int x0)] 1 = mkF m 0 #[.val (.int x0)] [] := by first | (simp [entryFrame, mkF, argsToLocals, Value.category]; done) | rfl
def f1 (p1 : Int32) : Int32 := if p1 = (9 : Int32) then (1 : Int32) else (if p1 = (10 : Int32) then (1 : Int32) else (if p1 = (13 : Int32) then (1 : Int32) else (if p1 < (32 : Int32) then (if p1 < (57344 : Int32) then (if p1 < (65536 : Int32) then (0 : Int32) else (if (1114111 : Int32) < p1 then (0 : Int32) else (1 : Int32))) else (if (65533 : Int32) < p1 then (if p1 < (65536 : Int32) then (0 : Int32) else (if (1114111 : Int32) < p1 then (0 : Int32) else (1 : Int32))) else (1 : Int32))) else (if (55295 : Int32) < p1 then (if p1 < (57344 : Int32) then (if p1 < (65536 : Int32) then (0 : Int32) else (if (1114111 : Int32) < p1 then (0 : Int32) else (1 : Int32))) else (if (65533 : Int32) < p1 then (if p1 < (65536 : Int32) then (0 : Int32) else (if (1114111 : Int32) < p1 then (0 : Int32) else (1 : Int32))) else (1 : Int32))) else (1 : Int32)))))
def Q1 (Z : State) (p1 : Int32) (h0 : Heap) (n0 : Nat) (v : Option Value) (h : Heap) (L : List Loc) : Prop := v = some (.int (f1 p1)) ∧ Fr n0 L ∧ h = h0
set_option maxRecDepth 65536 in
set_option maxHeartbeats 40000000 in
theorem rm1 (l : Launch) (Z : State) (a0 : Array Value) (hw : ∀ d ∈ tables_1, d.before a0 Z = true) (ws : List Jvm.Cond) (p1 : Int32) (h0 : Heap) (n0 : Nat) (Z0 : n0 ≤ h0.size) :
    MetFree l (⟨"com/example/strict_allowlist/strictallowlist/cli/Names", "isXmlCharacter", "(I)Z"⟩ : MethodName) (head1 (Jvm.Cond.code (⟨"com/example/strict_allowlist/strictallowlist/cli/Names", "isXmlCharacter", "(I)Z"⟩ : MethodName) prog_49_method_4_code 1 (some .boolean) :: ws) ({ frames := 0, cells := 0, slots := 0, locals := 0 } : Room)) (fun a U => a = #[(.int p1)] ∧ Z.Warmed39 U.vm ∧ U.heap = h0) (fun _ _ _ _ _ => True) (fun _ U o U' => ∃ v L, o = .returned v ∧ Q1 Z p1 h0 n0 v U'.heap L ∧ FrameEnd U o U' L ({ frames := 0, cells := 0, slots := 0, locals := 0 } : Room).cells ({ frames := 0, cells := 0, slots := 0, locals := 0 } : Room).slots) := by
  refine MetFree.of_bodySF (plainFor_of_name pn_0) hisR ?_
  intro p e s m args below meth c s₁ Bd hml0 hP hK
  obtain ⟨rfl, hZ, hh⟩ := hP
  have hx := Bd.exec
  have hby := Bd.bytes
  have hml : c.maxLocals = 1 := hml0
  have hown : s.vm.findClass "com/example/strict_allowlist/strictallowlist/cli/Names" = some m.cls := findClass_of_methodNamed Bd.named
  have hnm := (name_of_methodNamed Bd.named Bd.method).1
  have X0 : Stand p l e ({ frames := 0, cells := 0, slots := 0, locals := 0 } : Room) s m #[(.int p1)] below meth c s₁ [] 0 0 := Stand.of_body Bd
  have e0 : s₁.heap = h0 := by rw [← hh, Bd.state]; rfl
  have N0 := Fr.nil n0
  have pre0 : ∀ t, Steps p.tables e below (s₁.setTop (mkF m 0 #[.val (.int p1)] [])) t → Steps p.tables e below (s₁.setTop (entryFrame m #[(.int p1)] 1)) t := fun t k => castTop (ef_1 m p1) k
  have pre1 : ∀ t, Steps p.tables e below (s₁.setTop (mkF m 3 #[.val (.int p1)] [(.int (9 : Int32)), (.int p1)])) t → Steps p.tables e below (s₁.setTop (entryFrame m #[(.int p1)] 1)) t := fun t k => pre0 t (by
    show Steps p.tables e below (s₁.setTop (mkF m 0 #[.val (.int p1)] [])) _
    refine XS.iloadN X0.here hx rfl (hb hby d1_0) rfl ?_
    show Steps p.tables e below (s₁.setTop (mkF m 1 #[.val (.int p1)] [(.int p1)])) _
    refine XS.bipush X0.here hx rfl (hb hby d1_1) ?_
    exact k)
  by_cases hc2 : p1 = (9 : Int32)
  ·  -- pc 3: p1 = (9 : Int32)
    obtain ⟨fs, hr, hrun, hended, hW, hsame⟩ := X0.leave (v := some (.int (1 : Int32))) (fun h => by rw [Bd.returns] at h; cases h) Bd.notSynchronized
    refine ⟨_, _, pre1 _ ?_, hrun, hended, _, _, rfl, ?_, ⟨_, rfl⟩, hW, hsame.mono (by decide) (by decide)⟩
    · show Steps p.tables e below (s₁.setTop (mkF m 3 #[.val (.int p1)] [(.int (9 : Int32)), (.int p1)])) _
      refine XS.icmpYes X0.here hx rfl (pc0 := 3) (pc' := 54) rfl (hb hby d1_3) rfl (teq hc2).1 (by decide) (by decide) ?_
      show Steps p.tables e below (s₁.setTop (mkF m 54 #[.val (.int p1)] [])) _
      refine XS.iconst X0.here hx rfl (hb hby d1_54) ?_
      show Steps p.tables e below (s₁.setTop (mkF m 55 #[.val (.int p1)] [(.int (1 : Int32))])) _
      refine XS.goto X0.here hx rfl (pc0 := 55) (pc' := 59) rfl (hb hby d1_55) (by decide) (by decide) ?_
      show Steps p.tables e below (s₁.setTop (mkF m 59 #[.val (.int p1)] [(.int (1 : Int32))])) _
      exact retN X0 hx (t := .boolean) Bd.returns (by simp) (hb hby d1_59) hr
    · show Q1 Z p1 h0 n0 _ s₁.heap _
      rw [e0]
      exact ⟨(by unfold f1; rw [if_pos hc2]), N0, rfl⟩
  ·  -- pc 3: not p1 = (9 : Int32)
    have pre3 : ∀ t, Steps p.tables e below (s₁.setTop (mkF m 9 #[.val (.int p1)] [(.int (10 : Int32)), (.int p1)])) t → Steps p.tables e below (s₁.setTop (entryFrame m #[(.int p1)] 1)) t := fun t k => pre1 t (by
      show Steps p.tables e below (s₁.setTop (mkF m 3 #[.val (.int p1)] [(.int (9 : Int32)), (.int p1)])) _
      refine XS.icmpNo X0.here hx rfl (hb hby d1_3) rfl (feq hc2).1 ?_
      show Steps p.tables e below (s₁.setTop (mkF m 6 #[.val (.int p1)] [])) _
      refine XS.iloadN X0.here hx rfl (hb hby d1_6) rfl ?_
      show Steps p.tables e below (s₁.setTop (mkF m 7 #[.val (.int p1)] [(.int p1)])) _
      refine XS.bipush X0.here hx rfl (hb hby d1_7) ?_
      exact k)
    by_cases hc4 : p1 = (10 : Int32)
    ·  -- pc 9: p1 = (10 : Int32)
      obtain ⟨fs, hr, hrun, hended, hW, hsame⟩ := X0.leave (v := some (.int (1 : Int32))) (fun h => by rw [Bd.returns] at h; cases h) Bd.notSynchronized
      refine ⟨_, _, pre3 _ ?_, hrun, hended, _, _, rfl, ?_, ⟨_, rfl⟩, hW, hsame.mono (by decide) (by decide)⟩
      · show Steps p.tables e below (s₁.setTop (mkF m 9 #[.val (.int p1)] [(.int (10 : Int32)), (.int p1)])) _
        refine XS.icmpYes X0.here hx rfl (pc0 := 9) (pc' := 54) rfl (hb hby d1_9) rfl (teq hc4).1 (by decide) (by decide) ?_
        show Steps p.tables e below (s₁.setTop (mkF m 54 #[.val (.int p1)] [])) _
        refine XS.iconst X0.here hx rfl (hb hby d1_54) ?_
        show Steps p.tables e below (s₁.setTop (mkF m 55 #[.val (.int p1)] [(.int (1 : Int32))])) _
        refine XS.goto X0.here hx rfl (pc0 := 55) (pc' := 59) rfl (hb hby d1_55) (by decide) (by decide) ?_
        show Steps p.tables e below (s₁.setTop (mkF m 59 #[.val (.int p1)] [(.int (1 : Int32))])) _
        exact retN X0 hx (t := .boolean) Bd.returns (by simp) (hb hby d1_59) hr
      · show Q1 Z p1 h0 n0 _ s₁.heap _
        rw [e0]
        exact ⟨(by unfold f1; rw [if_neg hc2, if_pos hc4]), N0, rfl⟩
    ·  -- pc 9: not p1 = (10 : Int32)
      have pre5 : ∀ t, Steps p.tables e below (s₁.setTop (mkF m 15 #[.val (.int p1)] [(.int (13 : Int32)), (.int p1)])) t → Steps p.tables e below (s₁.setTop (entryFrame m #[(.int p1)] 1)) t := fun t k => pre3 t (by
        show Steps p.tables e below (s₁.setTop (mkF m 9 #[.val (.int p1)] [(.int (10 : Int32)), (.int p1)])) _
        refine XS.icmpNo X0.here hx rfl (hb hby d1_9) rfl (feq hc4).1 ?_
        show Steps p.tables e below (s₁.setTop (mkF m 12 #[.val (.int p1)] [])) _
        refine XS.iloadN X0.here hx rfl (hb hby d1_12) rfl ?_
        show Steps p.tables e below (s₁.setTop (mkF m 13 #[.val (.int p1)] [(.int p1)])) _
        refine XS.bipush X0.here hx rfl (hb hby d1_13) ?_
        exact k)
      by_cases hc6 : p1 = (13 : Int32)
      ·  -- pc 15: p1 = (13 : Int32)
        obtain ⟨fs, hr, hrun, hended, hW, hsame⟩ := X0.leave (v := some (.int (1 : Int32))) (fun h => by rw [Bd.returns] at h; cases h) Bd.notSynchronized
        refine ⟨_, _, pre5 _ ?_, hrun, hended, _, _, rfl, ?_, ⟨_, rfl⟩, hW, hsame.mono (by decide) (by decide)⟩
        · show Steps p.tables e below (s₁.setTop (mkF m 15 #[.val (.int p1)] [(.int (13 : Int32)), (.int p1)])) _
          refine XS.icmpYes X0.here hx rfl (pc0 := 15) (pc' := 54) rfl (hb hby d1_15) rfl (teq hc6).1 (by decide) (by decide) ?_
          show Steps p.tables e below (s₁.setTop (mkF m 54 #[.val (.int p1)] [])) _
          refine XS.iconst X0.here hx rfl (hb hby d1_54) ?_
          show Steps p.tables e below (s₁.setTop (mkF m 55 #[.val (.int p1)] [(.int (1 : Int32))])) _
          refine XS.goto X0.here hx rfl (pc0 := 55) (pc' := 59) rfl (hb hby d1_55) (by decide) (by decide) ?_
          show Steps p.tables e below (s₁.setTop (mkF m 59 #[.val (.int p1)] [(.int (1 : Int32))])) _
          exact retN X0 hx (t := .boolean) Bd.returns (by simp) (hb hby d1_59) hr
        · show Q1 Z p1 h0 n0 _ s₁.heap _
          rw [e0]
          exact ⟨(by unfold f1; rw [if_neg hc2, if_neg hc4, if_pos hc6]), N0, rfl⟩
      ·  -- pc 15: not p1 = (13 : Int32)
        have pre7 : ∀ t, Steps p.tables e below (s₁.setTop (mkF m 21 #[.val (.int p1)] [(.int (32 : Int32)), (.int p1)])) t → Steps p.tables e below (s₁.setTop (entryFrame m #[(.int p1)] 1)) t := fun t k => pre5 t (by
          show Steps p.tables e below (s₁.setTop (mkF m 15 #[.val (.int p1)] [(.int (13 : Int32)), (.int p1)])) _
          refine XS.icmpNo X0.here hx rfl (hb hby d1_15) rfl (feq hc6).1 ?_
          show Steps p.tables e below (s₁.setTop (mkF m 18 #[.val (.int p1)] [])) _
          refine XS.iloadN X0.here hx rfl (hb hby d1_18) rfl ?_
          show Steps p.tables e below (s₁.setTop (mkF m 19 #[.val (.int p1)] [(.int p1)])) _
          refine XS.bipush X0.here hx rfl (hb hby d1_19) ?_
          exact k)
        by_cases hc8 : p1 < (32 : Int32)
        ·  -- pc 21: p1 < (32 : Int32)
          have pre9 : ∀ t, Steps p.tables e below (s₁.setTop (mkF m 33 #[.val (.int p1)] [(.int (57344 : Int32)), (.int p1)])) t → Steps p.tables e below (s₁.setTop (entryFrame m #[(.int p1)] 1)) t := fun t k => pre7 t (by
            show Steps p.tables e below (s₁.setTop (mkF m 21 #[.val (.int p1)] [(.int (32 : Int32)), (.int p1)])) _
            refine XS.icmpYes X0.here hx rfl (pc0 := 21) (pc' := 30) rfl (hb hby d1_21) rfl (tlt hc8).1 (by decide) (by decide) ?_
            show Steps p.tables e below (s₁.setTop (mkF m 30 #[.val (.int p1)] [])) _
            refine XS.iloadN X0.here hx rfl (hb hby d1_30) rfl ?_
            show Steps p.tables e below (s₁.setTop (mkF m 31 #[.val (.int p1)] [(.int p1)])) _
            refine X0.ldcInt hx hown (mvT hZ (hw _ (List.mem_of_getElem? (i := 23) rfl))) (g := (mkF m 31 #[.val (.int p1)] [(.int p1)])) rfl (hb hby d1_31) _ ?_
            exact k)
          by_cases hc10 : p1 < (57344 : Int32)
          ·  -- pc 33: p1 < (57344 : Int32)
            have pre11 : ∀ t, Steps p.tables e below (s₁.setTop (mkF m 45 #[.val (.int p1)] [(.int (65536 : Int32)), (.int p1)])) t → Steps p.tables e below (s₁.setTop (entryFrame m #[(.int p1)] 1)) t := fun t k => pre9 t (by
              show Steps p.tables e below (s₁.setTop (mkF m 33 #[.val (.int p1)] [(.int (57344 : Int32)), (.int p1)])) _
              refine XS.icmpYes X0.here hx rfl (pc0 := 33) (pc' := 42) rfl (hb hby d1_33) rfl (tlt hc10).1 (by decide) (by decide) ?_
              show Steps p.tables e below (s₁.setTop (mkF m 42 #[.val (.int p1)] [])) _
              refine XS.iloadN X0.here hx rfl (hb hby d1_42) rfl ?_
              show Steps p.tables e below (s₁.setTop (mkF m 43 #[.val (.int p1)] [(.int p1)])) _
              refine X0.ldcInt hx hown (mvT hZ (hw _ (List.mem_of_getElem? (i := 24) rfl))) (g := (mkF m 43 #[.val (.int p1)] [(.int p1)])) rfl (hb hby d1_43) _ ?_
              exact k)
            by_cases hc12 : p1 < (65536 : Int32)
            ·  -- pc 45: p1 < (65536 : Int32)
              obtain ⟨fs, hr, hrun, hended, hW, hsame⟩ := X0.leave (v := some (.int (0 : Int32))) (fun h => by rw [Bd.returns] at h; cases h) Bd.notSynchronized
              refine ⟨_, _, pre11 _ ?_, hrun, hended, _, _, rfl, ?_, ⟨_, rfl⟩, hW, hsame.mono (by decide) (by decide)⟩
              · show Steps p.tables e below (s₁.setTop (mkF m 45 #[.val (.int p1)] [(.int (65536 : Int32)), (.int p1)])) _
                refine XS.icmpYes X0.here hx rfl (pc0 := 45) (pc' := 58) rfl (hb hby d1_45) rfl (tlt hc12).1 (by decide) (by decide) ?_
                show Steps p.tables e below (s₁.setTop (mkF m 58 #[.val (.int p1)] [])) _
                refine XS.iconst X0.here hx rfl (hb hby d1_58) ?_
                show Steps p.tables e below (s₁.setTop (mkF m 59 #[.val (.int p1)] [(.int (0 : Int32))])) _
                exact retN X0 hx (t := .boolean) Bd.returns (by simp) (hb hby d1_59) hr
              · show Q1 Z p1 h0 n0 _ s₁.heap _
                rw [e0]
                exact ⟨(by unfold f1; rw [if_neg hc2, if_neg hc4, if_neg hc6, if_pos hc8, if_pos hc10, if_pos hc12]), N0, rfl⟩
            ·  -- pc 45: not p1 < (65536 : Int32)
              have pre13 : ∀ t, Steps p.tables e below (s₁.setTop (mkF m 51 #[.val (.int p1)] [(.int (1114111 : Int32)), (.int p1)])) t → Steps p.tables e below (s₁.setTop (entryFrame m #[(.int p1)] 1)) t := fun t k => pre11 t (by
                show Steps p.tables e below (s₁.setTop (mkF m 45 #[.val (.int p1)] [(.int (65536 : Int32)), (.int p1)])) _
                refine XS.icmpNo X0.here hx rfl (hb hby d1_45) rfl (flt hc12).1 ?_
                show Steps p.tables e below (s₁.setTop (mkF m 48 #[.val (.int p1)] [])) _
                refine XS.iloadN X0.here hx rfl (hb hby d1_48) rfl ?_
                show Steps p.tables e below (s₁.setTop (mkF m 49 #[.val (.int p1)] [(.int p1)])) _
                refine X0.ldcInt hx hown (mvT hZ (hw _ (List.mem_of_getElem? (i := 27) rfl))) (g := (mkF m 49 #[.val (.int p1)] [(.int p1)])) rfl (hb hby d1_49) _ ?_
                exact k)
              by_cases hc14 : (1114111 : Int32) < p1
              ·  -- pc 51: (1114111 : Int32) < p1
                obtain ⟨fs, hr, hrun, hended, hW, hsame⟩ := X0.leave (v := some (.int (0 : Int32))) (fun h => by rw [Bd.returns] at h; cases h) Bd.notSynchronized
                refine ⟨_, _, pre13 _ ?_, hrun, hended, _, _, rfl, ?_, ⟨_, rfl⟩, hW, hsame.mono (by decide) (by decide)⟩
                · show Steps p.tables e below (s₁.setTop (mkF m 51 #[.val (.int p1)] [(.int (1114111 : Int32)), (.int p1)])) _
                  refine XS.icmpYes X0.here hx rfl (pc0 := 51) (pc' := 58) rfl (hb hby d1_51) rfl (tlt hc14).2.2.1 (by decide) (by decide) ?_
                  show Steps p.tables e below (s₁.setTop (mkF m 58 #[.val (.int p1)] [])) _
                  refine XS.iconst X0.here hx rfl (hb hby d1_58) ?_
                  show Steps p.tables e below (s₁.setTop (mkF m 59 #[.val (.int p1)] [(.int (0 : Int32))])) _
                  exact retN X0 hx (t := .boolean) Bd.returns (by simp) (hb hby d1_59) hr
                · show Q1 Z p1 h0 n0 _ s₁.heap _
                  rw [e0]
                  exact ⟨(by unfold f1; rw [if_neg hc2, if_neg hc4, if_neg hc6, if_pos hc8, if_pos hc10, if_neg hc12, if_pos hc14]), N0, rfl⟩
              ·  -- pc 51: not (1114111 : Int32) < p1
                obtain ⟨fs, hr, hrun, hended, hW, hsame⟩ := X0.leave (v := some (.int (1 : Int32))) (fun h => by rw [Bd.returns] at h; cases h) Bd.notSynchronized
                refine ⟨_, _, pre13 _ ?_, hrun, hended, _, _, rfl, ?_, ⟨_, rfl⟩, hW, hsame.mono (by decide) (by decide)⟩
                · show Steps p.tables e below (s₁.setTop (mkF m 51 #[.val (.int p1)] [(.int (1114111 : Int32)), (.int p1)])) _
                  refine XS.icmpNo X0.here hx rfl (hb hby d1_51) rfl (flt hc14).2.2.1 ?_
                  show Steps p.tables e below (s₁.setTop (mkF m 54 #[.val (.int p1)] [])) _
                  refine XS.iconst X0.here hx rfl (hb hby d1_54) ?_
                  show Steps p.tables e below (s₁.setTop (mkF m 55 #[.val (.int p1)] [(.int (1 : Int32))])) _
                  refine XS.goto X0.here hx rfl (pc0 := 55) (pc' := 59) rfl (hb hby d1_55) (by decide) (by decide) ?_
                  show Steps p.tables e below (s₁.setTop (mkF m 59 #[.val (.int p1)] [(.int (1 : Int32))])) _
                  exact retN X0 hx (t := .boolean) Bd.returns (by simp) (hb hby d1_59) hr
                · show Q1 Z p1 h0 n0 _ s₁.heap _
                  rw [e0]
                  exact ⟨(by unfold f1; rw [if_neg hc2, if_neg hc4, if_neg hc6, if_pos hc8, if_pos hc10, if_neg hc12, if_neg hc14]), N0, rfl⟩
          ·  -- pc 33: not p1 < (57344 : Int32)
            have pre15 : ∀ t, Steps p.tables e below (s₁.setTop (mkF m 39 #[.val (.int p1)] [(.int (65533 : Int32)), (.int p1)])) t → Steps p.tables e below (s₁.setTop (entryFrame m #[(.int p1)] 1)) t := fun t k => pre9 t (by
              show Steps p.tables e below (s₁.setTop (mkF m 33 #[.val (.int p1)] [(.int (57344 : Int32)), (.int p1)])) _
              refine XS.icmpNo X0.here hx rfl (hb hby d1_33) rfl (flt hc10).1 ?_
              show Steps p.tables e below (s₁.setTop (mkF m 36 #[.val (.int p1)] [])) _
              refine XS.iloadN X0.here hx rfl (hb hby d1_36) rfl ?_
              show Steps p.tables e below (s₁.setTop (mkF m 37 #[.val (.int p1)] [(.int p1)])) _
              refine X0.ldcInt hx hown (mvT hZ (hw _ (List.mem_of_getElem? (i := 26) rfl))) (g := (mkF m 37 #[.val (.int p1)] [(.int p1)])) rfl (hb hby d1_37) _ ?_
              exact k)
            by_cases hc16 : (65533 : Int32) < p1
            ·  -- pc 39: (65533 : Int32) < p1
              have pre17 : ∀ t, Steps p.tables e below (s₁.setTop (mkF m 45 #[.val (.int p1)] [(.int (65536 : Int32)), (.int p1)])) t → Steps p.tables e below (s₁.setTop (entryFrame m #[(.int p1)] 1)) t := fun t k => pre15 t (by
                show Steps p.tables e below (s₁.setTop (mkF m 39 #[.val (.int p1)] [(.int (65533 : Int32)), (.int p1)])) _
                refine XS.icmpNo X0.here hx rfl (hb hby d1_39) rfl (tlt hc16).2.2.2 ?_
                show Steps p.tables e below (s₁.setTop (mkF m 42 #[.val (.int p1)] [])) _
                refine XS.iloadN X0.here hx rfl (hb hby d1_42) rfl ?_
                show Steps p.tables e below (s₁.setTop (mkF m 43 #[.val (.int p1)] [(.int p1)])) _
                refine X0.ldcInt hx hown (mvT hZ (hw _ (List.mem_of_getElem? (i := 24) rfl))) (g := (mkF m 43 #[.val (.int p1)] [(.int p1)])) rfl (hb hby d1_43) _ ?_
                exact k)
              by_cases hc18 : p1 < (65536 : Int32)
              ·  -- pc 45: p1 < (65536 : Int32)
                obtain ⟨fs, hr, hrun, hended, hW, hsame⟩ := X0.leave (v := some (.int (0 : Int32))) (fun h => by rw [Bd.returns] at h; cases h) Bd.notSynchronized
                refine ⟨_, _, pre17 _ ?_, hrun, hended, _, _, rfl, ?_, ⟨_, rfl⟩, hW, hsame.mono (by decide) (by decide)⟩
                · show Steps p.tables e below (s₁.setTop (mkF m 45 #[.val (.int p1)] [(.int (65536 : Int32)), (.int p1)])) _
                  refine XS.icmpYes X0.here hx rfl (pc0 := 45) (pc' := 58) rfl (hb hby d1_45) rfl (tlt hc18).1 (by decide) (by decide) ?_
                  show Steps p.tables e below (s₁.setTop (mkF m 58 #[.val (.int p1)] [])) _
                  refine XS.iconst X0.here hx rfl (hb hby d1_58) ?_
                  show Steps p.tables e below (s₁.setTop (mkF m 59 #[.val (.int p1)] [(.int (0 : Int32))])) _
                  exact retN X0 hx (t := .boolean) Bd.returns (by simp) (hb hby d1_59) hr
                · show Q1 Z p1 h0 n0 _ s₁.heap _
                  rw [e0]
                  exact ⟨(by unfold f1; rw [if_neg hc2, if_neg hc4, if_neg hc6, if_pos hc8, if_neg hc10, if_pos hc16, if_pos hc18]), N0, rfl⟩
              ·  -- pc 45: not p1 < (65536 : Int32)
                have pre19 : ∀ t, Steps p.tables e below (s₁.setTop (mkF m 51 #[.val (.int p1)] [(.int (1114111 : Int32)), (.int p1)])) t → Steps p.tables e below (s₁.setTop (entryFrame m #[(.int p1)] 1)) t := fun t k => pre17 t (by
                  show Steps p.tables e below (s₁.setTop (mkF m 45 #[.val (.int p1)] [(.int (65536 : Int32)), (.int p1)])) _
                  refine XS.icmpNo X0.here hx rfl (hb hby d1_45) rfl (flt hc18).1 ?_
                  show Steps p.tables e below (s₁.setTop (mkF m 48 #[.val (.int p1)] [])) _
                  refine XS.iloadN X0.here hx rfl (hb hby d1_48) rfl ?_
                  show Steps p.tables e below (s₁.setTop (mkF m 49 #[.val (.int p1)] [(.int p1)])) _
                  refine X0.ldcInt hx hown (mvT hZ (hw _ (List.mem_of_getElem? (i := 27) rfl))) (g := (mkF m 49 #[.val (.int p1)] [(.int p1)])) rfl (hb hby d1_49) _ ?_
                  exact k)
                by_cases hc20 : (1114111 : Int32) < p1
                ·  -- pc 51: (1114111 : Int32) < p1
                  obtain ⟨fs, hr, hrun, hended, hW, hsame⟩ := X0.leave (v := some (.int (0 : Int32))) (fun h => by rw [Bd.returns] at h; cases h) Bd.notSynchronized
                  refine ⟨_, _, pre19 _ ?_, hrun, hended, _, _, rfl, ?_, ⟨_, rfl⟩, hW, hsame.mono (by decide) (by decide)⟩
                  · show Steps p.tables e below (s₁.setTop (mkF m 51 #[.val (.int p1)] [(.int (1114111 : Int32)), (.int p1)])) _
                    refine XS.icmpYes X0.here hx rfl (pc0 := 51) (pc' := 58) rfl (hb hby d1_51) rfl (tlt hc20).2.2.1 (by decide) (by decide) ?_
                    show Steps p.tables e below (s₁.setTop (mkF m 58 #[.val (.int p1)] [])) _
                    refine XS.iconst X0.here hx rfl (hb hby d1_58) ?_
                    show Steps p.tables e below (s₁.setTop (mkF m 59 #[.val (.int p1)] [(.int (0 : Int32))])) _
                    exact retN X0 hx (t := .boolean) Bd.returns (by simp) (hb hby d1_59) hr
                  · show Q1 Z p1 h0 n0 _ s₁.heap _
                    rw [e0]
                    exact ⟨(by unfold f1; rw [if_neg hc2, if_neg hc4, if_neg hc6, if_pos hc8, if_neg hc10, if_pos hc16, if_neg hc18, if_pos hc20]), N0, rfl⟩
                ·  -- pc 51: not (1114111 : Int32) < p1
                  obtain ⟨fs, hr, hrun, hended, hW, hsame⟩ := X0.leave (v := some (.int (1 : Int32))) (fun h => by rw [Bd.returns] at h; cases h) Bd.notSynchronized
                  refine ⟨_, _, pre19 _ ?_, hrun, hended, _, _, rfl, ?_, ⟨_, rfl⟩, hW, hsame.mono (by decide) (by decide)⟩
                  · show Steps p.tables e below (s₁.setTop (mkF m 51 #[.val (.int p1)] [(.int (1114111 : Int32)), (.int p1)])) _
                    refine XS.icmpNo X0.here hx rfl (hb hby d1_51) rfl (flt hc20).2.2.1 ?_
                    show Steps p.tables e below (s₁.setTop (mkF m 54 #[.val (.int p1)] [])) _
                    refine XS.iconst X0.here hx rfl (hb hby d1_54) ?_
                    show Steps p.tables e below (s₁.setTop (mkF m 55 #[.val (.int p1)] [(.int (1 : Int32))])) _
                    refine XS.goto X0.here hx rfl (pc0 := 55) (pc' := 59) rfl (hb hby d1_55) (by decide) (by decide) ?_
                    show Steps p.tables e below (s₁.setTop (mkF m 59 #[.val (.int p1)] [(.int (1 : Int32))])) _
                    exact retN X0 hx (t := .boolean) Bd.returns (by simp) (hb hby d1_59) hr
                  · show Q1 Z p1 h0 n0 _ s₁.heap _
                    rw [e0]
                    exact ⟨(by unfold f1; rw [if_neg hc2, if_neg hc4, if_neg hc6, if_pos hc8, if_neg hc10, if_pos hc16, if_neg hc18, if_neg hc20]), N0, rfl⟩
            ·  -- pc 39: not (65533 : Int32) < p1
              obtain ⟨fs, hr, hrun, hended, hW, hsame⟩ := X0.leave (v := some (.int (1 : Int32))) (fun h => by rw [Bd.returns] at h; cases h) Bd.notSynchronized
              refine ⟨_, _, pre15 _ ?_, hrun, hended, _, _, rfl, ?_, ⟨_, rfl⟩, hW, hsame.mono (by decide) (by decide)⟩
              · show Steps p.tables e below (s₁.setTop (mkF m 39 #[.val (.int p1)] [(.int (65533 : Int32)), (.int p1)])) _
                refine XS.icmpYes X0.here hx rfl (pc0 := 39) (pc' := 54) rfl (hb hby d1_39) rfl (flt hc16).2.2.2 (by decide) (by decide) ?_
                show Steps p.tables e below (s₁.setTop (mkF m 54 #[.val (.int p1)] [])) _
                refine XS.iconst X0.here hx rfl (hb hby d1_54) ?_
                show Steps p.tables e below (s₁.setTop (mkF m 55 #[.val (.int p1)] [(.int (1 : Int32))])) _
                refine XS.goto X0.here hx rfl (pc0 := 55) (pc' := 59) rfl (hb hby d1_55) (by decide) (by decide) ?_
                show Steps p.tables e below (s₁.setTop (mkF m 59 #[.val (.int p1)] [(.int (1 : Int32))])) _
                exact retN X0 hx (t := .boolean) Bd.returns (by simp) (hb hby d1_59) hr
              · show Q1 Z p1 h0 n0 _ s₁.heap _
                rw [e0]
                exact ⟨(by unfold f1; rw [if_neg hc2, if_neg hc4, if_neg hc6, if_pos hc8, if_neg hc10, if_neg hc16]), N0, rfl⟩
        ·  -- pc 21: not p1 < (32 : Int32)
          have pre21 : ∀ t, Steps p.tables e below (s₁.setTop (mkF m 27 #[.val (.int p1)] [(.int (55295 : Int32)), (.int p1)])) t → Steps p.tables e below (s₁.setTop (entryFrame m #[(.int p1)] 1)) t := fun t k => pre7 t (by
            show Steps p.tables e below (s₁.setTop (mkF m 21 #[.val (.int p1)] [(.int (32 : Int32)), (.int p1)])) _
            refine XS.icmpNo X0.here hx rfl (hb hby d1_21) rfl (flt hc8).1 ?_
            show Steps p.tables e below (s₁.setTop (mkF m 24 #[.val (.int p1)] [])) _
            refine XS.iloadN X0.here hx rfl (hb hby d1_24) rfl ?_
            show Steps p.tables e below (s₁.setTop (mkF m 25 #[.val (.int p1)] [(.int p1)])) _
            refine X0.ldcInt hx hown (mvT hZ (hw _ (List.mem_of_getElem? (i := 25) rfl))) (g := (mkF m 25 #[.val (.int p1)] [(.int p1)])) rfl (hb hby d1_25) _ ?_
            exact k)
          by_cases hc22 : (55295 : Int32) < p1
          ·  -- pc 27: (55295 : Int32) < p1
            have pre23 : ∀ t, Steps p.tables e below (s₁.setTop (mkF m 33 #[.val (.int p1)] [(.int (57344 : Int32)), (.int p1)])) t → Steps p.tables e below (s₁.setTop (entryFrame m #[(.int p1)] 1)) t := fun t k => pre21 t (by
              show Steps p.tables e below (s₁.setTop (mkF m 27 #[.val (.int p1)] [(.int (55295 : Int32)), (.int p1)])) _
              refine XS.icmpNo X0.here hx rfl (hb hby d1_27) rfl (tlt hc22).2.2.2 ?_
              show Steps p.tables e below (s₁.setTop (mkF m 30 #[.val (.int p1)] [])) _
              refine XS.iloadN X0.here hx rfl (hb hby d1_30) rfl ?_
              show Steps p.tables e below (s₁.setTop (mkF m 31 #[.val (.int p1)] [(.int p1)])) _
              refine X0.ldcInt hx hown (mvT hZ (hw _ (List.mem_of_getElem? (i := 23) rfl))) (g := (mkF m 31 #[.val (.int p1)] [(.int p1)])) rfl (hb hby d1_31) _ ?_
              exact k)
            by_cases hc24 : p1 < (57344 : Int32)
            ·  -- pc 33: p1 < (57344 : Int32)
              have pre25 : ∀ t, Steps p.tables e below (s₁.setTop (mkF m 45 #[.val (.int p1)] [(.int (65536 : Int32)), (.int p1)])) t → Steps p.tables e below (s₁.setTop (entryFrame m #[(.int p1)] 1)) t := fun t k => pre23 t (by
                show Steps p.tables e below (s₁.setTop (mkF m 33 #[.val (.int p1)] [(.int (57344 : Int32)), (.int p1)])) _
                refine XS.icmpYes X0.here hx rfl (pc0 := 33) (pc' := 42) rfl (hb hby d1_33) rfl (tlt hc24).1 (by decide) (by decide) ?_
                show Steps p.tables e below (s₁.setTop (mkF m 42 #[.val (.int p1)] [])) _
                refine XS.iloadN X0.here hx rfl (hb hby d1_42) rfl ?_
                show Steps p.tables e below (s₁.setTop (mkF m 43 #[.val (.int p1)] [(.int p1)])) _
                refine X0.ldcInt hx hown (mvT hZ (hw _ (List.mem_of_getElem? (i := 24) rfl))) (g := (mkF m 43 #[.val (.int p1)] [(.int p1)])) rfl (hb hby d1_43) _ ?_
                exact k)
              by_cases hc26 : p1 < (65536 : Int32)
              ·  -- pc 45: p1 < (65536 : Int32)
                obtain ⟨fs, hr, hrun, hended, hW, hsame⟩ := X0.leave (v := some (.int (0 : Int32))) (fun h => by rw [Bd.returns] at h; cases h) Bd.notSynchronized
                refine ⟨_, _, pre25 _ ?_, hrun, hended, _, _, rfl, ?_, ⟨_, rfl⟩, hW, hsame.mono (by decide) (by decide)⟩
                · show Steps p.tables e below (s₁.setTop (mkF m 45 #[.val (.int p1)] [(.int (65536 : Int32)), (.int p1)])) _
                  refine XS.icmpYes X0.here hx rfl (pc0 := 45) (pc' := 58) rfl (hb hby d1_45) rfl (tlt hc26).1 (by decide) (by decide) ?_
                  show Steps p.tables e below (s₁.setTop (mkF m 58 #[.val (.int p1)] [])) _
                  refine XS.iconst X0.here hx rfl (hb hby d1_58) ?_
                  show Steps p.tables e below (s₁.setTop (mkF m 59 #[.val (.int p1)] [(.int (0 : Int32))])) _
                  exact retN X0 hx (t := .boolean) Bd.returns (by simp) (hb hby d1_59) hr
                · show Q1 Z p1 h0 n0 _ s₁.heap _
                  rw [e0]
                  exact ⟨(by unfold f1; rw [if_neg hc2, if_neg hc4, if_neg hc6, if_neg hc8, if_pos hc22, if_pos hc24, if_pos hc26]), N0, rfl⟩
              ·  -- pc 45: not p1 < (65536 : Int32)
                have pre27 : ∀ t, Steps p.tables e below (s₁.setTop (mkF m 51 #[.val (.int p1)] [(.int (1114111 : Int32)), (.int p1)])) t → Steps p.tables e below (s₁.setTop (entryFrame m #[(.int p1)] 1)) t := fun t k => pre25 t (by
                  show Steps p.tables e below (s₁.setTop (mkF m 45 #[.val (.int p1)] [(.int (65536 : Int32)), (.int p1)])) _
                  refine XS.icmpNo X0.here hx rfl (hb hby d1_45) rfl (flt hc26).1 ?_
                  show Steps p.tables e below (s₁.setTop (mkF m 48 #[.val (.int p1)] [])) _
                  refine XS.iloadN X0.here hx rfl (hb hby d1_48) rfl ?_
                  show Steps p.tables e below (s₁.setTop (mkF m 49 #[.val (.int p1)] [(.int p1)])) _
                  refine X0.ldcInt hx hown (mvT hZ (hw _ (List.mem_of_getElem? (i := 27) rfl))) (g := (mkF m 49 #[.val (.int p1)] [(.int p1)])) rfl (hb hby d1_49) _ ?_
                  exact k)
                by_cases hc28 : (1114111 : Int32) < p1
                ·  -- pc 51: (1114111 : Int32) < p1
                  obtain ⟨fs, hr, hrun, hended, hW, hsame⟩ := X0.leave (v := some (.int (0 : Int32))) (fun h => by rw [Bd.returns] at h; cases h) Bd.notSynchronized
                  refine ⟨_, _, pre27 _ ?_, hrun, hended, _, _, rfl, ?_, ⟨_, rfl⟩, hW, hsame.mono (by decide) (by decide)⟩
                  · show Steps p.tables e below (s₁.setTop (mkF m 51 #[.val (.int p1)] [(.int (1114111 : Int32)), (.int p1)])) _
                    refine XS.icmpYes X0.here hx rfl (pc0 := 51) (pc' := 58) rfl (hb hby d1_51) rfl (tlt hc28).2.2.1 (by decide) (by decide) ?_
                    show Steps p.tables e below (s₁.setTop (mkF m 58 #[.val (.int p1)] [])) _
                    refine XS.iconst X0.here hx rfl (hb hby d1_58) ?_
                    show Steps p.tables e below (s₁.setTop (mkF m 59 #[.val (.int p1)] [(.int (0 : Int32))])) _
                    exact retN X0 hx (t := .boolean) Bd.returns (by simp) (hb hby d1_59) hr
                  · show Q1 Z p1 h0 n0 _ s₁.heap _
                    rw [e0]
                    exact ⟨(by unfold f1; rw [if_neg hc2, if_neg hc4, if_neg hc6, if_neg hc8, if_pos hc22, if_pos hc24, if_neg hc26, if_pos hc28]), N0, rfl⟩
                ·  -- pc 51: not (1114111 : Int32) < p1
                  obtain ⟨fs, hr, hrun, hended, hW, hsame⟩ := X0.leave (v := some (.int (1 : Int32))) (fun h => by rw [Bd.returns] at h; cases h) Bd.notSynchronized
                  refine ⟨_, _, pre27 _ ?_, hrun, hended, _, _, rfl, ?_, ⟨_, rfl⟩, hW, hsame.mono (by decide) (by decide)⟩
                  · show Steps p.tables e below (s₁.setTop (mkF m 51 #[.val (.int p1)] [(.int (1114111 : Int32)), (.int p1)])) _
                    refine XS.icmpNo X0.here hx rfl (hb hby d1_51) rfl (flt hc28).2.2.1 ?_
                    show Steps p.tables e below (s₁.setTop (mkF m 54 #[.val (.int p1)] [])) _
                    refine XS.iconst X0.here hx rfl (hb hby d1_54) ?_
                    show Steps p.tables e below (s₁.setTop (mkF m 55 #[.val (.int p1)] [(.int (1 : Int32))])) _
                    refine XS.goto X0.here hx rfl (pc0 := 55) (pc' := 59) rfl (hb hby d1_55) (by decide) (by decide) ?_
                    show Steps p.tables e below (s₁.setTop (mkF m 59 #[.val (.int p1)] [(.int (1 : Int32))])) _
                    exact retN X0 hx (t := .boolean) Bd.returns (by simp) (hb hby d1_59) hr
                  · show Q1 Z p1 h0 n0 _ s₁.heap _
                    rw [e0]
                    exact ⟨(by unfold f1; rw [if_neg hc2, if_neg hc4, if_neg hc6, if_neg hc8, if_pos hc22, if_pos hc24, if_neg hc26, if_neg hc28]), N0, rfl⟩
            ·  -- pc 33: not p1 < (57344 : Int32)
              have pre29 : ∀ t, Steps p.tables e below (s₁.setTop (mkF m 39 #[.val (.int p1)] [(.int (65533 : Int32)), (.int p1)])) t → Steps p.tables e below (s₁.setTop (entryFrame m #[(.int p1)] 1)) t := fun t k => pre23 t (by
                show Steps p.tables e below (s₁.setTop (mkF m 33 #[.val (.int p1)] [(.int (57344 : Int32)), (.int p1)])) _
                refine XS.icmpNo X0.here hx rfl (hb hby d1_33) rfl (flt hc24).1 ?_
                show Steps p.tables e below (s₁.setTop (mkF m 36 #[.val (.int p1)] [])) _
                refine XS.iloadN X0.here hx rfl (hb hby d1_36) rfl ?_
                show Steps p.tables e below (s₁.setTop (mkF m 37 #[.val (.int p1)] [(.int p1)])) _
                refine X0.ldcInt hx hown (mvT hZ (hw _ (List.mem_of_getElem? (i := 26) rfl))) (g := (mkF m 37 #[.val (.int p1)] [(.int p1)])) rfl (hb hby d1_37) _ ?_
                exact k)
              by_cases hc30 : (65533 : Int32) < p1
              ·  -- pc 39: (65533 : Int32) < p1
                have pre31 : ∀ t, Steps p.tables e below (s₁.setTop (mkF m 45 #[.val (.int p1)] [(.int (65536 : Int32)), (.int p1)])) t → Steps p.tables e below (s₁.setTop (entryFrame m #[(.int p1)] 1)) t := fun t k => pre29 t (by
                  show Steps p.tables e below (s₁.setTop (mkF m 39 #[.val (.int p1)] [(.int (65533 : Int32)), (.int p1)])) _
                  refine XS.icmpNo X0.here hx rfl (hb hby d1_39) rfl (tlt hc30).2.2.2 ?_
                  show Steps p.tables e below (s₁.setTop (mkF m 42 #[.val (.int p1)] [])) _
                  refine XS.iloadN X0.here hx rfl (hb hby d1_42) rfl ?_
                  show Steps p.tables e below (s₁.setTop (mkF m 43 #[.val (.int p1)] [(.int p1)])) _
                  refine X0.ldcInt hx hown (mvT hZ (hw _ (List.mem_of_getElem? (i := 24) rfl))) (g := (mkF m 43 #[.val (.int p1)] [(.int p1)])) rfl (hb hby d1_43) _ ?_
                  exact k)
                by_cases hc32 : p1 < (65536 : Int32)
                ·  -- pc 45: p1 < (65536 : Int32)
                  obtain ⟨fs, hr, hrun, hended, hW, hsame⟩ := X0.leave (v := some (.int (0 : Int32))) (fun h => by rw [Bd.returns] at h; cases h) Bd.notSynchronized
                  refine ⟨_, _, pre31 _ ?_, hrun, hended, _, _, rfl, ?_, ⟨_, rfl⟩, hW, hsame.mono (by decide) (by decide)⟩
                  · show Steps p.tables e below (s₁.setTop (mkF m 45 #[.val (.int p1)] [(.int (65536 : Int32)), (.int p1)])) _
                    refine XS.icmpYes X0.here hx rfl (pc0 := 45) (pc' := 58) rfl (hb hby d1_45) rfl (tlt hc32).1 (by decide) (by decide) ?_
                    show Steps p.tables e below (s₁.setTop (mkF m 58 #[.val (.int p1)] [])) _
                    refine XS.iconst X0.here hx rfl (hb hby d1_58) ?_
                    show Steps p.tables e below (s₁.setTop (mkF m 59 #[.val (.int p1)] [(.int (0 : Int32))])) _
                    exact retN X0 hx (t := .boolean) Bd.returns (by simp) (hb hby d1_59) hr
                  · show Q1 Z p1 h0 n0 _ s₁.heap _
                    rw [e0]
                    exact ⟨(by unfold f1; rw [if_neg hc2, if_neg hc4, if_neg hc6, if_neg hc8, if_pos hc22, if_neg hc24, if_pos hc30, if_pos hc32]), N0, rfl⟩
                ·  -- pc 45: not p1 < (65536 : Int32)
                  have pre33 : ∀ t, Steps p.tables e below (s₁.setTop (mkF m 51 #[.val (.int p1)] [(.int (1114111 : Int32)), (.int p1)])) t → Steps p.tables e below (s₁.setTop (entryFrame m #[(.int p1)] 1)) t := fun t k => pre31 t (by
                    show Steps p.tables e below (s₁.setTop (mkF m 45 #[.val (.int p1)] [(.int (65536 : Int32)), (.int p1)])) _
                    refine XS.icmpNo X0.here hx rfl (hb hby d1_45) rfl (flt hc32).1 ?_
                    show Steps p.tables e below (s₁.setTop (mkF m 48 #[.val (.int p1)] [])) _
                    refine XS.iloadN X0.here hx rfl (hb hby d1_48) rfl ?_
                    show Steps p.tables e below (s₁.setTop (mkF m 49 #[.val (.int p1)] [(.int p1)])) _
                    refine X0.ldcInt hx hown (mvT hZ (hw _ (List.mem_of_getElem? (i := 27) rfl))) (g := (mkF m 49 #[.val (.int p1)] [(.int p1)])) rfl (hb hby d1_49) _ ?_
                    exact k)
                  by_cases hc34 : (1114111 : Int32) < p1
                  ·  -- pc 51: (1114111 : Int32) < p1
                    obtain ⟨fs, hr, hrun, hended, hW, hsame⟩ := X0.leave (v := some (.int (0 : Int32))) (fun h => by rw [Bd.returns] at h; cases h) Bd.notSynchronized
                    refine ⟨_, _, pre33 _ ?_, hrun, hended, _, _, rfl, ?_, ⟨_, rfl⟩, hW, hsame.mono (by decide) (by decide)⟩
                    · show Steps p.tables e below (s₁.setTop (mkF m 51 #[.val (.int p1)] [(.int (1114111 : Int32)), (.int p1)])) _
                      refine XS.icmpYes X0.here hx rfl (pc0 := 51) (pc' := 58) rfl (hb hby d1_51) rfl (tlt hc34).2.2.1 (by decide) (by decide) ?_
                      show Steps p.tables e below (s₁.setTop (mkF m 58 #[.val (.int p1)] [])) _
                      refine XS.iconst X0.here hx rfl (hb hby d1_58) ?_
                      show Steps p.tables e below (s₁.setTop (mkF m 59 #[.val (.int p1)] [(.int (0 : Int32))])) _
                      exact retN X0 hx (t := .boolean) Bd.returns (by simp) (hb hby d1_59) hr
                    · show Q1 Z p1 h0 n0 _ s₁.heap _
                      rw [e0]
                      exact ⟨(by unfold f1; rw [if_neg hc2, if_neg hc4, if_neg hc6, if_neg hc8, if_pos hc22, if_neg hc24, if_pos hc30, if_neg hc32, if_pos hc34]), N0, rfl⟩
                  ·  -- pc 51: not (1114111 : Int32) < p1
                    obtain ⟨fs, hr, hrun, hended, hW, hsame⟩ := X0.leave (v := some (.int (1 : Int32))) (fun h => by rw [Bd.returns] at h; cases h) Bd.notSynchronized
                    refine ⟨_, _, pre33 _ ?_, hrun, hended, _, _, rfl, ?_, ⟨_, rfl⟩, hW, hsame.mono (by decide) (by decide)⟩
                    · show Steps p.tables e below (s₁.setTop (mkF m 51 #[.val (.int p1)] [(.int (1114111 : Int32)), (.int p1)])) _
                      refine XS.icmpNo X0.here hx rfl (hb hby d1_51) rfl (flt hc34).2.2.1 ?_
                      show Steps p.tables e below (s₁.setTop (mkF m 54 #[.val (.int p1)] [])) _
                      refine XS.iconst X0.here hx rfl (hb hby d1_54) ?_
                      show Steps p.tables e below (s₁.setTop (mkF m 55 #[.val (.int p1)] [(.int (1 : Int32))])) _
                      refine XS.goto X0.here hx rfl (pc0 := 55) (pc' := 59) rfl (hb hby d1_55) (by decide) (by decide) ?_
                      show Steps p.tables e below (s₁.setTop (mkF m 59 #[.val (.int p1)] [(.int (1 : Int32))])) _
                      exact retN X0 hx (t := .boolean) Bd.returns (by simp) (hb hby d1_59) hr
                    · show Q1 Z p1 h0 n0 _ s₁.heap _
                      rw [e0]
                      exact ⟨(by unfold f1; rw [if_neg hc2, if_neg hc4, if_neg hc6, if_neg hc8, if_pos hc22, if_neg hc24, if_pos hc30, if_neg hc32, if_neg hc34]), N0, rfl⟩
              ·  -- pc 39: not (65533 : Int32) < p1
                obtain ⟨fs, hr, hrun, hended, hW, hsame⟩ := X0.leave (v := some (.int (1 : Int32))) (fun h => by rw [Bd.returns] at h; cases h) Bd.notSynchronized
                refine ⟨_, _, pre29 _ ?_, hrun, hended, _, _, rfl, ?_, ⟨_, rfl⟩, hW, hsame.mono (by decide) (by decide)⟩
                · show Steps p.tables e below (s₁.setTop (mkF m 39 #[.val (.int p1)] [(.int (65533 : Int32)), (.int p1)])) _
                  refine XS.icmpYes X0.here hx rfl (pc0 := 39) (pc' := 54) rfl (hb hby d1_39) rfl (flt hc30).2.2.2 (by decide) (by decide) ?_
                  show Steps p.tables e below (s₁.setTop (mkF m 54 #[.val (.int p1)] [])) _
                  refine XS.iconst X0.here hx rfl (hb hby d1_54) ?_
                  show Steps p.tables e below (s₁.setTop (mkF m 55 #[.val (.int p1)] [(.int (1 : Int32))])) _
                  refine XS.goto X0.here hx rfl (pc0 := 55) (pc' := 59) rfl (hb hby d1_55) (by decide) (by decide) ?_
                  show Steps p.tables e below (s₁.setTop (mkF m 59 #[.val (.int p1)] [(.int (1 : Int32))])) _
                  exact retN X0 hx (t := .boolean) Bd.returns (by simp) (hb hby d1_59) hr
                · show Q1 Z p1 h0 n0 _ s₁.heap _
                  rw [e0]
                  exact ⟨(by unfold f1; rw [if_neg hc2, if_neg hc4, if_neg hc6, if_neg hc8, if_pos hc22, if_neg hc24, if_neg hc30]), N0, rfl⟩
          ·  -- pc 27: not (55295 : Int32) < p1
            obtain ⟨fs, hr, hrun, hended, hW, hsame⟩ := X0.leave (v := some (.int (1 : Int32))) (fun h => by rw [Bd.returns] at h; cases h) Bd.notSynchronized
            refine ⟨_, _, pre21 _ ?_, hrun, hended, _, _, rfl, ?_, ⟨_, rfl⟩, hW, hsame.mono (by decide) (by decide)⟩
            · show Steps p.tables e below (s₁.setTop (mkF m 27 #[.val (.int p1)] [(.int (55295 : Int32)), (.int p1)])) _
              refine XS.icmpYes X0.here hx rfl (pc0 := 27) (pc' := 54) rfl (hb hby d1_27) rfl (flt hc22).2.2.2 (by decide) (by decide) ?_
              show Steps p.tables e below (s₁.setTop (mkF m 54 #[.val (.int p1)] [])) _
              refine XS.iconst X0.here hx rfl (hb hby d1_54) ?_
              show Steps p.tables e below (s₁.setTop (mkF m 55 #[.val (.int p1)] [(.int (1 : Int32))])) _
              refine XS.goto X0.here hx rfl (pc0 := 55) (pc' := 59) rfl (hb hby d1_55) (by decide) (by decide) ?_
              show Steps p.tables e below (s₁.setTop (mkF m 59 #[.val (.int p1)] [(.int (1 : Int32))])) _
              exact retN X0 hx (t := .boolean) Bd.returns (by simp) (hb hby d1_59) hr
            · show Q1 Z p1 h0 n0 _ s₁.heap _
              rw [e0]
              exact ⟨(by unfold f1; rw [if_neg hc2, if_neg hc4, if_neg hc6, if_neg hc8, if_neg hc22]), N0, rfl⟩
theorem pn_32 : plainName "com/example/strict_allowlist/strictallowlist/cli/NamesIsXmlCharacterPinLaw" = true := by first | (simp [plainName, overriddenIn]; done) | decide +kernel
theorem d2_0 : decode method_2_code 0 = .ok (.iload_n 0, 1) := by decide +kernel
theorem d2_1 : decode method_2_code 1 = .ok (.ifCond .lt 9, 3) := by decide +kernel
theorem d2_10 : decode method_2_code 10 = .ok (.iconst 0, 1) := by decide +kernel
theorem d2_11 : decode method_2_code 11 = .ok (.ireturn, 1) := by decide +kernel
theorem d2_4 : decode method_2_code 4 = .ok (.iload_n 0, 1) := by decide +kernel
theorem d2_5 : decode method_2_code 5 = .ok (.ldc 7, 2) := by decide +kernel
theorem d2_7 : decode method_2_code 7 = .ok (.if_icmp .le 5, 3) := by decide +kernel
theorem d2_12 : decode method_2_code 12 = .ok (.iload_n 0, 1) := by decide +kernel
theorem d2_13 : decode method_2_code 13 = .ok (.bipush 32, 2) := by decide +kernel
theorem d2_15 : decode method_2_code 15 = .ok (.if_icmp .ge 27, 3) := by decide +kernel
theorem d2_18 : decode method_2_code 18 = .ok (.iload_n 0, 1) := by decide +kernel
theorem d2_19 : decode method_2_code 19 = .ok (.bipush 9, 2) := by decide +kernel
theorem d2_21 : decode method_2_code 21 = .ok (.if_icmp .eq 15, 3) := by decide +kernel
theorem d2_36 : decode method_2_code 36 = .ok (.iconst 1, 1) := by decide +kernel
theorem d2_37 : decode method_2_code 37 = .ok (.goto 4, 3) := by decide +kernel
theorem d2_41 : decode method_2_code 41 = .ok (.ireturn, 1) := by decide +kernel
theorem d2_24 : decode method_2_code 24 = .ok (.iload_n 0, 1) := by decide +kernel
theorem d2_25 : decode method_2_code 25 = .ok (.bipush 10, 2) := by decide +kernel
theorem d2_27 : decode method_2_code 27 = .ok (.if_icmp .eq 9, 3) := by decide +kernel
theorem d2_30 : decode method_2_code 30 = .ok (.iload_n 0, 1) := by decide +kernel
theorem d2_31 : decode method_2_code 31 = .ok (.bipush 13, 2) := by decide +kernel
theorem d2_33 : decode method_2_code 33 = .ok (.if_icmp .ne 7, 3) := by decide +kernel
theorem d2_40 : decode method_2_code 40 = .ok (.iconst 0, 1) := by decide +kernel
theorem d2_42 : decode method_2_code 42 = .ok (.iload_n 0, 1) := by decide +kernel
theorem d2_43 : decode method_2_code 43 = .ok (.ldc 8, 2) := by decide +kernel
theorem d2_45 : decode method_2_code 45 = .ok (.if_icmp .lt 11, 3) := by decide +kernel
theorem d2_56 : decode method_2_code 56 = .ok (.iload_n 0, 1) := by decide +kernel
theorem d2_57 : decode method_2_code 57 = .ok (.ldc 10, 2) := by decide +kernel
theorem d2_59 : decode method_2_code 59 = .ok (.if_icmp .eq 9, 3) := by decide +kernel
theorem d2_68 : decode method_2_code 68 = .ok (.iconst 0, 1) := by decide +kernel
theorem d2_69 : decode method_2_code 69 = .ok (.ireturn, 1) := by decide +kernel
theorem d2_62 : decode method_2_code 62 = .ok (.iload_n 0, 1) := by decide +kernel
theorem d2_63 : decode method_2_code 63 = .ok (.ldc 11, 2) := by decide +kernel
theorem d2_65 : decode method_2_code 65 = .ok (.if_icmp .ne 5, 3) := by decide +kernel
theorem d2_70 : decode method_2_code 70 = .ok (.iconst 1, 1) := by decide +kernel
theorem d2_71 : decode method_2_code 71 = .ok (.ireturn, 1) := by decide +kernel
theorem d2_48 : decode method_2_code 48 = .ok (.iload_n 0, 1) := by decide +kernel
theorem d2_49 : decode method_2_code 49 = .ok (.ldc 9, 2) := by decide +kernel
theorem d2_51 : decode method_2_code 51 = .ok (.if_icmp .gt 5, 3) := by decide +kernel
theorem d2_54 : decode method_2_code 54 = .ok (.iconst 0, 1) := by decide +kernel
theorem d2_55 : decode method_2_code 55 = .ok (.ireturn, 1) := by decide +kernel
theorem ef_2 (m : MethodId) (x0 : Int32) : entryFrame m #[(.int x0)] 1 = mkF m 0 #[.val (.int x0)] [] := by first | (simp [entryFrame, mkF, argsToLocals, Value.category]; done) | rfl
def f2 (p1 : Int32) : Int32 := if p1 < (0 : Int32) then (0 : Int32) else (if (1114111 : Int32) < p1 then (0 : Int32) else (if p1 < (32 : Int32) then (if p1 = (9 : Int32) then (1 : Int32) else (if p1 = (10 : Int32) then (1 : Int32) else (if p1 = (13 : Int32) then (1 : Int32) else (0 : Int32)))) else (if p1 < (55296 : Int32) then (if p1 = (65534 : Int32) then (0 : Int32) else (if p1 = (65535 : Int32) then (0 : Int32) else (1 : Int32))) else (if (57343 : Int32) < p1 then (if p1 = (65534 : Int32) then (0 : Int32) else (if p1 = (65535 : Int32) then (0 : Int32) else (1 : Int32))) else (0 : Int32)))))
def Q2 (Z : State) (p1 : Int32) (h0 : Heap) (n0 : Nat) (v : Option Value) (h : Heap) (L : List Loc) : Prop := v = some (.int (f2 p1)) ∧ Fr n0 L ∧ h = h0
set_option maxRecDepth 65536 in
set_option maxHeartbeats 40000000 in
theorem rm2 (l : Launch) (Z : State) (a0 : Array Value) (hw : ∀ d ∈ tables_1, d.before a0 Z = true) (ws : List Jvm.Cond) (p1 : Int32) (h0 : Heap) (n0 : Nat) (Z0 : n0 ≤ h0.size) :
    MetFree l (⟨"com/example/strict_allowlist/strictallowlist/cli/NamesIsXmlCharacterPinLaw", "expected", "(I)Z"⟩ : MethodName) (head1 (Jvm.Cond.code (⟨"com/example/strict_allowlist/strictallowlist/cli/NamesIsXmlCharacterPinLaw", "expected", "(I)Z"⟩ : MethodName) method_2_code 1 (some .boolean) :: ws) ({ frames := 0, cells := 0, slots := 0, locals := 0 } : Room)) (fun a U => a = #[(.int p1)] ∧ Z.Warmed39 U.vm ∧ U.heap = h0) (fun _ _ _ _ _ => True) (fun _ U o U' => ∃ v L, o = .returned v ∧ Q2 Z p1 h0 n0 v U'.heap L ∧ FrameEnd U o U' L ({ frames := 0, cells := 0, slots := 0, locals := 0 } : Room).cells ({ frames := 0, cells := 0, slots := 0, locals := 0 } : Room).slots) := by
  refine MetFree.of_bodySF (plainFor_of_name pn_32) hisR ?_
  intro p e s m args below meth c s₁ Bd hml0 hP hK
  obtain ⟨rfl, hZ, hh⟩ := hP
  have hx := Bd.exec
  have hby := Bd.bytes
  have hml : c.maxLocals = 1 := hml0
  have hown : s.vm.findClass "com/example/strict_allowlist/strictallowlist/cli/NamesIsXmlCharacterPinLaw" = some m.cls := findClass_of_methodNamed Bd.named
  have hnm := (name_of_methodNamed Bd.named Bd.method).1
  have X0 : Stand p l e ({ frames := 0, cells := 0, slots := 0, locals := 0 } : Room) s m #[(.int p1)] below meth c s₁ [] 0 0 := Stand.of_body Bd
  have e0 : s₁.heap = h0 := by rw [← hh, Bd.state]; rfl
  have N0 := Fr.nil n0
  have pre0 : ∀ t, Steps p.tables e below (s₁.setTop (mkF m 0 #[.val (.int p1)] [])) t → Steps p.tables e below (s₁.setTop (entryFrame m #[(.int p1)] 1)) t := fun t k => castTop (ef_2 m p1) k
  have pre1 : ∀ t, Steps p.tables e below (s₁.setTop (mkF m 1 #[.val (.int p1)] [(.int p1)])) t → Steps p.tables e below (s₁.setTop (entryFrame m #[(.int p1)] 1)) t := fun t k => pre0 t (by
    show Steps p.tables e below (s₁.setTop (mkF m 0 #[.val (.int p1)] [])) _
    refine XS.iloadN X0.here hx rfl (hb hby d2_0) rfl ?_
    exact k)
  by_cases hc2 : p1 < (0 : Int32)
  ·  -- pc 1: p1 < (0 : Int32)
    obtain ⟨fs, hr, hrun, hended, hW, hsame⟩ := X0.leave (v := some (.int (0 : Int32))) (fun h => by rw [Bd.returns] at h; cases h) Bd.notSynchronized
    refine ⟨_, _, pre1 _ ?_, hrun, hended, _, _, rfl, ?_, ⟨_, rfl⟩, hW, hsame.mono (by decide) (by decide)⟩
    · show Steps p.tables e below (s₁.setTop (mkF m 1 #[.val (.int p1)] [(.int p1)])) _
      refine XS.ifYes X0.here hx rfl (pc0 := 1) (pc' := 10) rfl (hb hby d2_1) rfl ((if0 _ _).trans (tlt hc2).1) (by decide) (by decide) ?_
      show Steps p.tables e below (s₁.setTop (mkF m 10 #[.val (.int p1)] [])) _
      refine XS.iconst X0.here hx rfl (hb hby d2_10) ?_
      show Steps p.tables e below (s₁.setTop (mkF m 11 #[.val (.int p1)] [(.int (0 : Int32))])) _
      exact retN X0 hx (t := .boolean) Bd.returns (by simp) (hb hby d2_11) hr
    · show Q2 Z p1 h0 n0 _ s₁.heap _
      rw [e0]
      exact ⟨(by unfold f2; rw [if_pos hc2]), N0, rfl⟩
  ·  -- pc 1: not p1 < (0 : Int32)
    have pre3 : ∀ t, Steps p.tables e below (s₁.setTop (mkF m 7 #[.val (.int p1)] [(.int (1114111 : Int32)), (.int p1)])) t → Steps p.tables e below (s₁.setTop (entryFrame m #[(.int p1)] 1)) t := fun t k => pre1 t (by
      show Steps p.tables e below (s₁.setTop (mkF m 1 #[.val (.int p1)] [(.int p1)])) _
      refine XS.ifNo X0.here hx rfl (hb hby d2_1) rfl ((if0 _ _).trans (flt hc2).1) ?_
      show Steps p.tables e below (s₁.setTop (mkF m 4 #[.val (.int p1)] [])) _
      refine XS.iloadN X0.here hx rfl (hb hby d2_4) rfl ?_
      show Steps p.tables e below (s₁.setTop (mkF m 5 #[.val (.int p1)] [(.int p1)])) _
      refine X0.ldcInt hx hown (mvT hZ (hw _ (List.mem_of_getElem? (i := 11) rfl))) (g := (mkF m 5 #[.val (.int p1)] [(.int p1)])) rfl (hb hby d2_5) _ ?_
      exact k)
    by_cases hc4 : (1114111 : Int32) < p1
    ·  -- pc 7: (1114111 : Int32) < p1
      obtain ⟨fs, hr, hrun, hended, hW, hsame⟩ := X0.leave (v := some (.int (0 : Int32))) (fun h => by rw [Bd.returns] at h; cases h) Bd.notSynchronized
      refine ⟨_, _, pre3 _ ?_, hrun, hended, _, _, rfl, ?_, ⟨_, rfl⟩, hW, hsame.mono (by decide) (by decide)⟩
      · show Steps p.tables e below (s₁.setTop (mkF m 7 #[.val (.int p1)] [(.int (1114111 : Int32)), (.int p1)])) _
        refine XS.icmpNo X0.here hx rfl (hb hby d2_7) rfl (tlt hc4).2.2.2 ?_
        show Steps p.tables e below (s₁.setTop (mkF m 10 #[.val (.int p1)] [])) _
        refine XS.iconst X0.here hx rfl (hb hby d2_10) ?_
        show Steps p.tables e below (s₁.setTop (mkF m 11 #[.val (.int p1)] [(.int (0 : Int32))])) _
        exact retN X0 hx (t := .boolean) Bd.returns (by simp) (hb hby d2_11) hr
      · show Q2 Z p1 h0 n0 _ s₁.heap _
        rw [e0]
        exact ⟨(by unfold f2; rw [if_neg hc2, if_pos hc4]), N0, rfl⟩
    ·  -- pc 7: not (1114111 : Int32) < p1
      have pre5 : ∀ t, Steps p.tables e below (s₁.setTop (mkF m 15 #[.val (.int p1)] [(.int (32 : Int32)), (.int p1)])) t → Steps p.tables e below (s₁.setTop (entryFrame m #[(.int p1)] 1)) t := fun t k => pre3 t (by
        show Steps p.tables e below (s₁.setTop (mkF m 7 #[.val (.int p1)] [(.int (1114111 : Int32)), (.int p1)])) _
        refine XS.icmpYes X0.here hx rfl (pc0 := 7) (pc' := 12) rfl (hb hby d2_7) rfl (flt hc4).2.2.2 (by decide) (by decide) ?_
        show Steps p.tables e below (s₁.setTop (mkF m 12 #[.val (.int p1)] [])) _
        refine XS.iloadN X0.here hx rfl (hb hby d2_12) rfl ?_
        show Steps p.tables e below (s₁.setTop (mkF m 13 #[.val (.int p1)] [(.int p1)])) _
        refine XS.bipush X0.here hx rfl (hb hby d2_13) ?_
        exact k)
      by_cases hc6 : p1 < (32 : Int32)
      ·  -- pc 15: p1 < (32 : Int32)
        have pre7 : ∀ t, Steps p.tables e below (s₁.setTop (mkF m 21 #[.val (.int p1)] [(.int (9 : Int32)), (.int p1)])) t → Steps p.tables e below (s₁.setTop (entryFrame m #[(.int p1)] 1)) t := fun t k => pre5 t (by
          show Steps p.tables e below (s₁.setTop (mkF m 15 #[.val (.int p1)] [(.int (32 : Int32)), (.int p1)])) _
          refine XS.icmpNo X0.here hx rfl (hb hby d2_15) rfl (tlt hc6).2.1 ?_
          show Steps p.tables e below (s₁.setTop (mkF m 18 #[.val (.int p1)] [])) _
          refine XS.iloadN X0.here hx rfl (hb hby d2_18) rfl ?_
          show Steps p.tables e below (s₁.setTop (mkF m 19 #[.val (.int p1)] [(.int p1)])) _
          refine XS.bipush X0.here hx rfl (hb hby d2_19) ?_
          exact k)
        by_cases hc8 : p1 = (9 : Int32)
        ·  -- pc 21: p1 = (9 : Int32)
          obtain ⟨fs, hr, hrun, hended, hW, hsame⟩ := X0.leave (v := some (.int (1 : Int32))) (fun h => by rw [Bd.returns] at h; cases h) Bd.notSynchronized
          refine ⟨_, _, pre7 _ ?_, hrun, hended, _, _, rfl, ?_, ⟨_, rfl⟩, hW, hsame.mono (by decide) (by decide)⟩
          · show Steps p.tables e below (s₁.setTop (mkF m 21 #[.val (.int p1)] [(.int (9 : Int32)), (.int p1)])) _
            refine XS.icmpYes X0.here hx rfl (pc0 := 21) (pc' := 36) rfl (hb hby d2_21) rfl (teq hc8).1 (by decide) (by decide) ?_
            show Steps p.tables e below (s₁.setTop (mkF m 36 #[.val (.int p1)] [])) _
            refine XS.iconst X0.here hx rfl (hb hby d2_36) ?_
            show Steps p.tables e below (s₁.setTop (mkF m 37 #[.val (.int p1)] [(.int (1 : Int32))])) _
            refine XS.goto X0.here hx rfl (pc0 := 37) (pc' := 41) rfl (hb hby d2_37) (by decide) (by decide) ?_
            show Steps p.tables e below (s₁.setTop (mkF m 41 #[.val (.int p1)] [(.int (1 : Int32))])) _
            exact retN X0 hx (t := .boolean) Bd.returns (by simp) (hb hby d2_41) hr
          · show Q2 Z p1 h0 n0 _ s₁.heap _
            rw [e0]
            exact ⟨(by unfold f2; rw [if_neg hc2, if_neg hc4, if_pos hc6, if_pos hc8]), N0, rfl⟩
        ·  -- pc 21: not p1 = (9 : Int32)
          have pre9 : ∀ t, Steps p.tables e below (s₁.setTop (mkF m 27 #[.val (.int p1)] [(.int (10 : Int32)), (.int p1)])) t → Steps p.tables e below (s₁.setTop (entryFrame m #[(.int p1)] 1)) t := fun t k => pre7 t (by
            show Steps p.tables e below (s₁.setTop (mkF m 21 #[.val (.int p1)] [(.int (9 : Int32)), (.int p1)])) _
            refine XS.icmpNo X0.here hx rfl (hb hby d2_21) rfl (feq hc8).1 ?_
            show Steps p.tables e below (s₁.setTop (mkF m 24 #[.val (.int p1)] [])) _
            refine XS.iloadN X0.here hx rfl (hb hby d2_24) rfl ?_
            show Steps p.tables e below (s₁.setTop (mkF m 25 #[.val (.int p1)] [(.int p1)])) _
            refine XS.bipush X0.here hx rfl (hb hby d2_25) ?_
            exact k)
          by_cases hc10 : p1 = (10 : Int32)
          ·  -- pc 27: p1 = (10 : Int32)
            obtain ⟨fs, hr, hrun, hended, hW, hsame⟩ := X0.leave (v := some (.int (1 : Int32))) (fun h => by rw [Bd.returns] at h; cases h) Bd.notSynchronized
            refine ⟨_, _, pre9 _ ?_, hrun, hended, _, _, rfl, ?_, ⟨_, rfl⟩, hW, hsame.mono (by decide) (by decide)⟩
            · show Steps p.tables e below (s₁.setTop (mkF m 27 #[.val (.int p1)] [(.int (10 : Int32)), (.int p1)])) _
              refine XS.icmpYes X0.here hx rfl (pc0 := 27) (pc' := 36) rfl (hb hby d2_27) rfl (teq hc10).1 (by decide) (by decide) ?_
              show Steps p.tables e below (s₁.setTop (mkF m 36 #[.val (.int p1)] [])) _
              refine XS.iconst X0.here hx rfl (hb hby d2_36) ?_
              show Steps p.tables e below (s₁.setTop (mkF m 37 #[.val (.int p1)] [(.int (1 : Int32))])) _
              refine XS.goto X0.here hx rfl (pc0 := 37) (pc' := 41) rfl (hb hby d2_37) (by decide) (by decide) ?_
              show Steps p.tables e below (s₁.setTop (mkF m 41 #[.val (.int p1)] [(.int (1 : Int32))])) _
              exact retN X0 hx (t := .boolean) Bd.returns (by simp) (hb hby d2_41) hr
            · show Q2 Z p1 h0 n0 _ s₁.heap _
              rw [e0]
              exact ⟨(by unfold f2; rw [if_neg hc2, if_neg hc4, if_pos hc6, if_neg hc8, if_pos hc10]), N0, rfl⟩
          ·  -- pc 27: not p1 = (10 : Int32)
            have pre11 : ∀ t, Steps p.tables e below (s₁.setTop (mkF m 33 #[.val (.int p1)] [(.int (13 : Int32)), (.int p1)])) t → Steps p.tables e below (s₁.setTop (entryFrame m #[(.int p1)] 1)) t := fun t k => pre9 t (by
              show Steps p.tables e below (s₁.setTop (mkF m 27 #[.val (.int p1)] [(.int (10 : Int32)), (.int p1)])) _
              refine XS.icmpNo X0.here hx rfl (hb hby d2_27) rfl (feq hc10).1 ?_
              show Steps p.tables e below (s₁.setTop (mkF m 30 #[.val (.int p1)] [])) _
              refine XS.iloadN X0.here hx rfl (hb hby d2_30) rfl ?_
              show Steps p.tables e below (s₁.setTop (mkF m 31 #[.val (.int p1)] [(.int p1)])) _
              refine XS.bipush X0.here hx rfl (hb hby d2_31) ?_
              exact k)
            by_cases hc12 : p1 = (13 : Int32)
            ·  -- pc 33: p1 = (13 : Int32)
              obtain ⟨fs, hr, hrun, hended, hW, hsame⟩ := X0.leave (v := some (.int (1 : Int32))) (fun h => by rw [Bd.returns] at h; cases h) Bd.notSynchronized
              refine ⟨_, _, pre11 _ ?_, hrun, hended, _, _, rfl, ?_, ⟨_, rfl⟩, hW, hsame.mono (by decide) (by decide)⟩
              · show Steps p.tables e below (s₁.setTop (mkF m 33 #[.val (.int p1)] [(.int (13 : Int32)), (.int p1)])) _
                refine XS.icmpNo X0.here hx rfl (hb hby d2_33) rfl (teq hc12).2 ?_
                show Steps p.tables e below (s₁.setTop (mkF m 36 #[.val (.int p1)] [])) _
                refine XS.iconst X0.here hx rfl (hb hby d2_36) ?_
                show Steps p.tables e below (s₁.setTop (mkF m 37 #[.val (.int p1)] [(.int (1 : Int32))])) _
                refine XS.goto X0.here hx rfl (pc0 := 37) (pc' := 41) rfl (hb hby d2_37) (by decide) (by decide) ?_
                show Steps p.tables e below (s₁.setTop (mkF m 41 #[.val (.int p1)] [(.int (1 : Int32))])) _
                exact retN X0 hx (t := .boolean) Bd.returns (by simp) (hb hby d2_41) hr
              · show Q2 Z p1 h0 n0 _ s₁.heap _
                rw [e0]
                exact ⟨(by unfold f2; rw [if_neg hc2, if_neg hc4, if_pos hc6, if_neg hc8, if_neg hc10, if_pos hc12]), N0, rfl⟩
            ·  -- pc 33: not p1 = (13 : Int32)
              obtain ⟨fs, hr, hrun, hended, hW, hsame⟩ := X0.leave (v := some (.int (0 : Int32))) (fun h => by rw [Bd.returns] at h; cases h) Bd.notSynchronized
              refine ⟨_, _, pre11 _ ?_, hrun, hended, _, _, rfl, ?_, ⟨_, rfl⟩, hW, hsame.mono (by decide) (by decide)⟩
              · show Steps p.tables e below (s₁.setTop (mkF m 33 #[.val (.int p1)] [(.int (13 : Int32)), (.int p1)])) _
                refine XS.icmpYes X0.here hx rfl (pc0 := 33) (pc' := 40) rfl (hb hby d2_33) rfl (feq hc12).2 (by decide) (by decide) ?_
                show Steps p.tables e below (s₁.setTop (mkF m 40 #[.val (.int p1)] [])) _
                refine XS.iconst X0.here hx rfl (hb hby d2_40) ?_
                show Steps p.tables e below (s₁.setTop (mkF m 41 #[.val (.int p1)] [(.int (0 : Int32))])) _
                exact retN X0 hx (t := .boolean) Bd.returns (by simp) (hb hby d2_41) hr
              · show Q2 Z p1 h0 n0 _ s₁.heap _
                rw [e0]
                exact ⟨(by unfold f2; rw [if_neg hc2, if_neg hc4, if_pos hc6, if_neg hc8, if_neg hc10, if_neg hc12]), N0, rfl⟩
      ·  -- pc 15: not p1 < (32 : Int32)
        have pre13 : ∀ t, Steps p.tables e below (s₁.setTop (mkF m 45 #[.val (.int p1)] [(.int (55296 : Int32)), (.int p1)])) t → Steps p.tables e below (s₁.setTop (entryFrame m #[(.int p1)] 1)) t := fun t k => pre5 t (by
          show Steps p.tables e below (s₁.setTop (mkF m 15 #[.val (.int p1)] [(.int (32 : Int32)), (.int p1)])) _
          refine XS.icmpYes X0.here hx rfl (pc0 := 15) (pc' := 42) rfl (hb hby d2_15) rfl (flt hc6).2.1 (by decide) (by decide) ?_
          show Steps p.tables e below (s₁.setTop (mkF m 42 #[.val (.int p1)] [])) _
          refine XS.iloadN X0.here hx rfl (hb hby d2_42) rfl ?_
          show Steps p.tables e below (s₁.setTop (mkF m 43 #[.val (.int p1)] [(.int p1)])) _
          refine X0.ldcInt hx hown (mvT hZ (hw _ (List.mem_of_getElem? (i := 2) rfl))) (g := (mkF m 43 #[.val (.int p1)] [(.int p1)])) rfl (hb hby d2_43) _ ?_
          exact k)
        by_cases hc14 : p1 < (55296 : Int32)
        ·  -- pc 45: p1 < (55296 : Int32)
          have pre15 : ∀ t, Steps p.tables e below (s₁.setTop (mkF m 59 #[.val (.int p1)] [(.int (65534 : Int32)), (.int p1)])) t → Steps p.tables e below (s₁.setTop (entryFrame m #[(.int p1)] 1)) t := fun t k => pre13 t (by
            show Steps p.tables e below (s₁.setTop (mkF m 45 #[.val (.int p1)] [(.int (55296 : Int32)), (.int p1)])) _
            refine XS.icmpYes X0.here hx rfl (pc0 := 45) (pc' := 56) rfl (hb hby d2_45) rfl (tlt hc14).1 (by decide) (by decide) ?_
            show Steps p.tables e below (s₁.setTop (mkF m 56 #[.val (.int p1)] [])) _
            refine XS.iloadN X0.here hx rfl (hb hby d2_56) rfl ?_
            show Steps p.tables e below (s₁.setTop (mkF m 57 #[.val (.int p1)] [(.int p1)])) _
            refine X0.ldcInt hx hown (mvT hZ (hw _ (List.mem_of_getElem? (i := 8) rfl))) (g := (mkF m 57 #[.val (.int p1)] [(.int p1)])) rfl (hb hby d2_57) _ ?_
            exact k)
          by_cases hc16 : p1 = (65534 : Int32)
          ·  -- pc 59: p1 = (65534 : Int32)
            obtain ⟨fs, hr, hrun, hended, hW, hsame⟩ := X0.leave (v := some (.int (0 : Int32))) (fun h => by rw [Bd.returns] at h; cases h) Bd.notSynchronized
            refine ⟨_, _, pre15 _ ?_, hrun, hended, _, _, rfl, ?_, ⟨_, rfl⟩, hW, hsame.mono (by decide) (by decide)⟩
            · show Steps p.tables e below (s₁.setTop (mkF m 59 #[.val (.int p1)] [(.int (65534 : Int32)), (.int p1)])) _
              refine XS.icmpYes X0.here hx rfl (pc0 := 59) (pc' := 68) rfl (hb hby d2_59) rfl (teq hc16).1 (by decide) (by decide) ?_
              show Steps p.tables e below (s₁.setTop (mkF m 68 #[.val (.int p1)] [])) _
              refine XS.iconst X0.here hx rfl (hb hby d2_68) ?_
              show Steps p.tables e below (s₁.setTop (mkF m 69 #[.val (.int p1)] [(.int (0 : Int32))])) _
              exact retN X0 hx (t := .boolean) Bd.returns (by simp) (hb hby d2_69) hr
            · show Q2 Z p1 h0 n0 _ s₁.heap _
              rw [e0]
              exact ⟨(by unfold f2; rw [if_neg hc2, if_neg hc4, if_neg hc6, if_pos hc14, if_pos hc16]), N0, rfl⟩
          ·  -- pc 59: not p1 = (65534 : Int32)
            have pre17 : ∀ t, Steps p.tables e below (s₁.setTop (mkF m 65 #[.val (.int p1)] [(.int (65535 : Int32)), (.int p1)])) t → Steps p.tables e below (s₁.setTop (entryFrame m #[(.int p1)] 1)) t := fun t k => pre15 t (by
              show Steps p.tables e below (s₁.setTop (mkF m 59 #[.val (.int p1)] [(.int (65534 : Int32)), (.int p1)])) _
              refine XS.icmpNo X0.here hx rfl (hb hby d2_59) rfl (feq hc16).1 ?_
              show Steps p.tables e below (s₁.setTop (mkF m 62 #[.val (.int p1)] [])) _
              refine XS.iloadN X0.here hx rfl (hb hby d2_62) rfl ?_
              show Steps p.tables e below (s₁.setTop (mkF m 63 #[.val (.int p1)] [(.int p1)])) _
              refine X0.ldcInt hx hown (mvT hZ (hw _ (List.mem_of_getElem? (i := 9) rfl))) (g := (mkF m 63 #[.val (.int p1)] [(.int p1)])) rfl (hb hby d2_63) _ ?_
              exact k)
            by_cases hc18 : p1 = (65535 : Int32)
            ·  -- pc 65: p1 = (65535 : Int32)
              obtain ⟨fs, hr, hrun, hended, hW, hsame⟩ := X0.leave (v := some (.int (0 : Int32))) (fun h => by rw [Bd.returns] at h; cases h) Bd.notSynchronized
              refine ⟨_, _, pre17 _ ?_, hrun, hended, _, _, rfl, ?_, ⟨_, rfl⟩, hW, hsame.mono (by decide) (by decide)⟩
              · show Steps p.tables e below (s₁.setTop (mkF m 65 #[.val (.int p1)] [(.int (65535 : Int32)), (.int p1)])) _
                refine XS.icmpNo X0.here hx rfl (hb hby d2_65) rfl (teq hc18).2 ?_
                show Steps p.tables e below (s₁.setTop (mkF m 68 #[.val (.int p1)] [])) _
                refine XS.iconst X0.here hx rfl (hb hby d2_68) ?_
                show Steps p.tables e below (s₁.setTop (mkF m 69 #[.val (.int p1)] [(.int (0 : Int32))])) _
                exact retN X0 hx (t := .boolean) Bd.returns (by simp) (hb hby d2_69) hr
              · show Q2 Z p1 h0 n0 _ s₁.heap _
                rw [e0]
                exact ⟨(by unfold f2; rw [if_neg hc2, if_neg hc4, if_neg hc6, if_pos hc14, if_neg hc16, if_pos hc18]), N0, rfl⟩
            ·  -- pc 65: not p1 = (65535 : Int32)
              obtain ⟨fs, hr, hrun, hended, hW, hsame⟩ := X0.leave (v := some (.int (1 : Int32))) (fun h => by rw [Bd.returns] at h; cases h) Bd.notSynchronized
              refine ⟨_, _, pre17 _ ?_, hrun, hended, _, _, rfl, ?_, ⟨_, rfl⟩, hW, hsame.mono (by decide) (by decide)⟩
              · show Steps p.tables e below (s₁.setTop (mkF m 65 #[.val (.int p1)] [(.int (65535 : Int32)), (.int p1)])) _
                refine XS.icmpYes X0.here hx rfl (pc0 := 65) (pc' := 70) rfl (hb hby d2_65) rfl (feq hc18).2 (by decide) (by decide) ?_
                show Steps p.tables e below (s₁.setTop (mkF m 70 #[.val (.int p1)] [])) _
                refine XS.iconst X0.here hx rfl (hb hby d2_70) ?_
                show Steps p.tables e below (s₁.setTop (mkF m 71 #[.val (.int p1)] [(.int (1 : Int32))])) _
                exact retN X0 hx (t := .boolean) Bd.returns (by simp) (hb hby d2_71) hr
              · show Q2 Z p1 h0 n0 _ s₁.heap _
                rw [e0]
                exact ⟨(by unfold f2; rw [if_neg hc2, if_neg hc4, if_neg hc6, if_pos hc14, if_neg hc16, if_neg hc18]), N0, rfl⟩
        ·  -- pc 45: not p1 < (55296 : Int32)
          have pre19 : ∀ t, Steps p.tables e below (s₁.setTop (mkF m 51 #[.val (.int p1)] [(.int (57343 : Int32)), (.int p1)])) t → Steps p.tables e below (s₁.setTop (entryFrame m #[(.int p1)] 1)) t := fun t k => pre13 t (by
            show Steps p.tables e below (s₁.setTop (mkF m 45 #[.val (.int p1)] [(.int (55296 : Int32)), (.int p1)])) _
            refine XS.icmpNo X0.here hx rfl (hb hby d2_45) rfl (flt hc14).1 ?_
            show Steps p.tables e below (s₁.setTop (mkF m 48 #[.val (.int p1)] [])) _
            refine XS.iloadN X0.here hx rfl (hb hby d2_48) rfl ?_
            show Steps p.tables e below (s₁.setTop (mkF m 49 #[.val (.int p1)] [(.int p1)])) _
            refine X0.ldcInt hx hown (mvT hZ (hw _ (List.mem_of_getElem? (i := 5) rfl))) (g := (mkF m 49 #[.val (.int p1)] [(.int p1)])) rfl (hb hby d2_49) _ ?_
            exact k)
          by_cases hc20 : (57343 : Int32) < p1
          ·  -- pc 51: (57343 : Int32) < p1
            have pre21 : ∀ t, Steps p.tables e below (s₁.setTop (mkF m 59 #[.val (.int p1)] [(.int (65534 : Int32)), (.int p1)])) t → Steps p.tables e below (s₁.setTop (entryFrame m #[(.int p1)] 1)) t := fun t k => pre19 t (by
              show Steps p.tables e below (s₁.setTop (mkF m 51 #[.val (.int p1)] [(.int (57343 : Int32)), (.int p1)])) _
              refine XS.icmpYes X0.here hx rfl (pc0 := 51) (pc' := 56) rfl (hb hby d2_51) rfl (tlt hc20).2.2.1 (by decide) (by decide) ?_
              show Steps p.tables e below (s₁.setTop (mkF m 56 #[.val (.int p1)] [])) _
              refine XS.iloadN X0.here hx rfl (hb hby d2_56) rfl ?_
              show Steps p.tables e below (s₁.setTop (mkF m 57 #[.val (.int p1)] [(.int p1)])) _
              refine X0.ldcInt hx hown (mvT hZ (hw _ (List.mem_of_getElem? (i := 8) rfl))) (g := (mkF m 57 #[.val (.int p1)] [(.int p1)])) rfl (hb hby d2_57) _ ?_
              exact k)
            by_cases hc22 : p1 = (65534 : Int32)
            ·  -- pc 59: p1 = (65534 : Int32)
              obtain ⟨fs, hr, hrun, hended, hW, hsame⟩ := X0.leave (v := some (.int (0 : Int32))) (fun h => by rw [Bd.returns] at h; cases h) Bd.notSynchronized
              refine ⟨_, _, pre21 _ ?_, hrun, hended, _, _, rfl, ?_, ⟨_, rfl⟩, hW, hsame.mono (by decide) (by decide)⟩
              · show Steps p.tables e below (s₁.setTop (mkF m 59 #[.val (.int p1)] [(.int (65534 : Int32)), (.int p1)])) _
                refine XS.icmpYes X0.here hx rfl (pc0 := 59) (pc' := 68) rfl (hb hby d2_59) rfl (teq hc22).1 (by decide) (by decide) ?_
                show Steps p.tables e below (s₁.setTop (mkF m 68 #[.val (.int p1)] [])) _
                refine XS.iconst X0.here hx rfl (hb hby d2_68) ?_
                show Steps p.tables e below (s₁.setTop (mkF m 69 #[.val (.int p1)] [(.int (0 : Int32))])) _
                exact retN X0 hx (t := .boolean) Bd.returns (by simp) (hb hby d2_69) hr
              · show Q2 Z p1 h0 n0 _ s₁.heap _
                rw [e0]
                exact ⟨(by unfold f2; rw [if_neg hc2, if_neg hc4, if_neg hc6, if_neg hc14, if_pos hc20, if_pos hc22]), N0, rfl⟩
            ·  -- pc 59: not p1 = (65534 : Int32)
              have pre23 : ∀ t, Steps p.tables e below (s₁.setTop (mkF m 65 #[.val (.int p1)] [(.int (65535 : Int32)), (.int p1)])) t → Steps p.tables e below (s₁.setTop (entryFrame m #[(.int p1)] 1)) t := fun t k => pre21 t (by
                show Steps p.tables e below (s₁.setTop (mkF m 59 #[.val (.int p1)] [(.int (65534 : Int32)), (.int p1)])) _
                refine XS.icmpNo X0.here hx rfl (hb hby d2_59) rfl (feq hc22).1 ?_
                show Steps p.tables e below (s₁.setTop (mkF m 62 #[.val (.int p1)] [])) _
                refine XS.iloadN X0.here hx rfl (hb hby d2_62) rfl ?_
                show Steps p.tables e below (s₁.setTop (mkF m 63 #[.val (.int p1)] [(.int p1)])) _
                refine X0.ldcInt hx hown (mvT hZ (hw _ (List.mem_of_getElem? (i := 9) rfl))) (g := (mkF m 63 #[.val (.int p1)] [(.int p1)])) rfl (hb hby d2_63) _ ?_
                exact k)
              by_cases hc24 : p1 = (65535 : Int32)
              ·  -- pc 65: p1 = (65535 : Int32)
                obtain ⟨fs, hr, hrun, hended, hW, hsame⟩ := X0.leave (v := some (.int (0 : Int32))) (fun h => by rw [Bd.returns] at h; cases h) Bd.notSynchronized
                refine ⟨_, _, pre23 _ ?_, hrun, hended, _, _, rfl, ?_, ⟨_, rfl⟩, hW, hsame.mono (by decide) (by decide)⟩
                · show Steps p.tables e below (s₁.setTop (mkF m 65 #[.val (.int p1)] [(.int (65535 : Int32)), (.int p1)])) _
                  refine XS.icmpNo X0.here hx rfl (hb hby d2_65) rfl (teq hc24).2 ?_
                  show Steps p.tables e below (s₁.setTop (mkF m 68 #[.val (.int p1)] [])) _
                  refine XS.iconst X0.here hx rfl (hb hby d2_68) ?_
                  show Steps p.tables e below (s₁.setTop (mkF m 69 #[.val (.int p1)] [(.int (0 : Int32))])) _
                  exact retN X0 hx (t := .boolean) Bd.returns (by simp) (hb hby d2_69) hr
                · show Q2 Z p1 h0 n0 _ s₁.heap _
                  rw [e0]
                  exact ⟨(by unfold f2; rw [if_neg hc2, if_neg hc4, if_neg hc6, if_neg hc14, if_pos hc20, if_neg hc22, if_pos hc24]), N0, rfl⟩
              ·  -- pc 65: not p1 = (65535 : Int32)
                obtain ⟨fs, hr, hrun, hended, hW, hsame⟩ := X0.leave (v := some (.int (1 : Int32))) (fun h => by rw [Bd.returns] at h; cases h) Bd.notSynchronized
                refine ⟨_, _, pre23 _ ?_, hrun, hended, _, _, rfl, ?_, ⟨_, rfl⟩, hW, hsame.mono (by decide) (by decide)⟩
                · show Steps p.tables e below (s₁.setTop (mkF m 65 #[.val (.int p1)] [(.int (65535 : Int32)), (.int p1)])) _
                  refine XS.icmpYes X0.here hx rfl (pc0 := 65) (pc' := 70) rfl (hb hby d2_65) rfl (feq hc24).2 (by decide) (by decide) ?_
                  show Steps p.tables e below (s₁.setTop (mkF m 70 #[.val (.int p1)] [])) _
                  refine XS.iconst X0.here hx rfl (hb hby d2_70) ?_
                  show Steps p.tables e below (s₁.setTop (mkF m 71 #[.val (.int p1)] [(.int (1 : Int32))])) _
                  exact retN X0 hx (t := .boolean) Bd.returns (by simp) (hb hby d2_71) hr
                · show Q2 Z p1 h0 n0 _ s₁.heap _
                  rw [e0]
                  exact ⟨(by unfold f2; rw [if_neg hc2, if_neg hc4, if_neg hc6, if_neg hc14, if_pos hc20, if_neg hc22, if_neg hc24]), N0, rfl⟩
          ·  -- pc 51: not (57343 : Int32) < p1
            obtain ⟨fs, hr, hrun, hended, hW, hsame⟩ := X0.leave (v := some (.int (0 : Int32))) (fun h => by rw [Bd.returns] at h; cases h) Bd.notSynchronized
            refine ⟨_, _, pre19 _ ?_, hrun, hended, _, _, rfl, ?_, ⟨_, rfl⟩, hW, hsame.mono (by decide) (by decide)⟩
            · show Steps p.tables e below (s₁.setTop (mkF m 51 #[.val (.int p1)] [(.int (57343 : Int32)), (.int p1)])) _
              refine XS.icmpNo X0.here hx rfl (hb hby d2_51) rfl (flt hc20).2.2.1 ?_
              show Steps p.tables e below (s₁.setTop (mkF m 54 #[.val (.int p1)] [])) _
              refine XS.iconst X0.here hx rfl (hb hby d2_54) ?_
              show Steps p.tables e below (s₁.setTop (mkF m 55 #[.val (.int p1)] [(.int (0 : Int32))])) _
              exact retN X0 hx (t := .boolean) Bd.returns (by simp) (hb hby d2_55) hr
            · show Q2 Z p1 h0 n0 _ s₁.heap _
              rw [e0]
              exact ⟨(by unfold f2; rw [if_neg hc2, if_neg hc4, if_neg hc6, if_neg hc14, if_neg hc20]), N0, rfl⟩
theorem own_same (c : Int32) : f1 c = f2 c := by
  unfold f1 f2
  simp only [Int32.lt_iff_toInt_lt, ← Int32.toInt_inj]
  generalize c.toInt = z
  simp only [show (9 : Int32).toInt = 9 from by decide, show (10 : Int32).toInt = 10 from by decide, show (13 : Int32).toInt = 13 from by decide, show (32 : Int32).toInt = 32 from by decide, show (55295 : Int32).toInt = 55295 from by decide, show (57344 : Int32).toInt = 57344 from by decide, show (65533 : Int32).toInt = 65533 from by decide, show (65536 : Int32).toInt = 65536 from by decide, show (1114111 : Int32).toInt = 1114111 from by decide, show (0 : Int32).toInt = 0 from by decide, show (55296 : Int32).toInt = 55296 from by decide, show (57343 : Int32).toInt = 57343 from by decide, show (65534 : Int32).toInt = 65534 from by decide, show (65535 : Int32).toInt = 65535 from by decide]
  repeat' split
  all_goals first | rfl | (exfalso; omega)
theorem own_idx (k : Int32) : ¬ ((k &&& (2147483647 : Int32)) % (25 : Int32) < 0) ∧ (k &&& (2147483647 : Int32)) % (25 : Int32) < (25 : Int32) := by
  have e1 := c_mask k (2147483647 : Int32) 31 (by decide) (by decide)
  generalize (k &&& (2147483647 : Int32)) = m at *
  have e2 := (c_irem m (25 : Int32) 25 (by decide)).1 (by omega)
  simp only [Int32.lt_iff_toInt_lt]
  rw [e2, show (25 : Int32).toInt = 25 from by decide, show (0 : Int32).toInt = 0 from by decide]
  omega
theorem own_ints (l : List Int32) (j : Nat) : ∃ z : Int32, (l.map Value.int).getD j (.int 0) = .int z := by
  induction l generalizing j with
  | nil => exact ⟨0, by simp⟩
  | cons a t ih => cases j with
    | zero => exact ⟨a, rfl⟩
    | succ j => exact ih j
theorem pd_74 : parseMethodDescriptor "(I)Z" = some ⟨[.int], some .boolean⟩ := by decide +kernel
theorem ef_0 (m : MethodId) (x0 : Int32) (x1 : Int32) (x2 : Int32) (x3 : Int32) : entryFrame m #[(.int x0), (.int x1), (.int x2), (.int x3)] maxLocals = mkF m 0 #[.val (.int x0), .val (.int x1), .val (.int x2), .val (.int x3), .unset, .unset] [] := by first | (simp [entryFrame, mkF, argsToLocals, Value.category, maxLocals]; done) | rfl
def Q0 (Z : State) (p1 : Int32) (p2 : Int32) (p3 : Int32) (p4 : Int32) (h0 : Heap) (n0 : Nat) (v : Option Value) (h : Heap) (L : List Loc) : Prop := v = some (.int (1 : Int32)) ∧ Fr n0 L
set_option maxRecDepth 65536 in
set_option maxHeartbeats 40000000 in
theorem rm0 (l : Launch) (Z : State) (a0 : Array Value) (hw : ∀ d ∈ tables_1, d.before a0 Z = true) (ws : List Jvm.Cond) (p1 : Int32) (p2 : Int32) (p3 : Int32) (p4 : Int32) (h0 : Heap) (n0 : Nat) (Z0 : n0 ≤ h0.size) :
    MetFree l x (head1 (Jvm.Cond.code x code maxLocals ret :: ws) room_1) (fun a U => a = #[(.int p1), (.int p2), (.int p3), (.int p4)] ∧ Z.Warmed39 U.vm ∧ U.heap = h0) (fun _ _ _ _ _ => True) (fun _ U o U' => ∃ v L, o = .returned v ∧ Q0 Z p1 p2 p3 p4 h0 n0 v U'.heap L ∧ FrameEnd U o U' L room_1.cells room_1.slots) := by
  refine MetFree.of_bodySF (plainFor_of_name pn_32) hisR ?_
  intro p e s m args below meth c s₁ Bd hml0 hP hK
  obtain ⟨rfl, hZ, hh⟩ := hP
  have hx := Bd.exec
  have hby := Bd.bytes
  have hml : c.maxLocals = 6 := hml0
  have hown : s.vm.findClass "com/example/strict_allowlist/strictallowlist/cli/NamesIsXmlCharacterPinLaw" = some m.cls := findClass_of_methodNamed Bd.named
  have hnm := (name_of_methodNamed Bd.named Bd.method).1
  have X0 : Stand p l e room_1 s m #[(.int p1), (.int p2), (.int p3), (.int p4)] below meth c s₁ [] 0 0 := Stand.of_body Bd
  have e0 : s₁.heap = h0 := by rw [← hh, Bd.state]; rfl
  have N0 := Fr.nil n0
  have pre0 : ∀ t, Steps p.tables e below (s₁.setTop (mkF m 0 #[.val (.int p1), .val (.int p2), .val (.int p3), .val (.int p4), .unset, .unset] [])) t → Steps p.tables e below (s₁.setTop (entryFrame m #[(.int p1), (.int p2), (.int p3), (.int p4)] maxLocals)) t := fun t k => castTop (ef_0 m p1 p2 p3 p4) k
  obtain ⟨T1, h1, k1, X1, e1, E1, A1, st1⟩ := newP X0 hx hZ (hw _ (List.mem_of_getElem? (i := 0) rfl)) e0 (g := (mkF m 2 #[.val (.int p1), .val (.int p2), .val (.int p3), .val (.int p4), .unset, .unset] [(.int (25 : Int32))])) rfl (hb hby at_2) rfl (by decide) (cap := 25) (by decide) (by decide) (by decide) (by decide)
  obtain ⟨b1, g1⟩ : ∃ z, z = h0.size := ⟨_, rfl⟩
  rw [← g1] at A1 st1
  have g_b1 : n0 ≤ b1 := Nat.le_trans Z0 (Nat.le_of_eq g1.symm)
  have zs2 : n0 ≤ h1.size := Nat.le_trans Z0 E1.1
  have V_b1 : Arv Z h1 b1 k1 .int (25 : Int32) [(.int (0 : Int32)), (.int (0 : Int32)), (.int (0 : Int32)), (.int (0 : Int32)), (.int (0 : Int32)), (.int (0 : Int32)), (.int (0 : Int32)), (.int (0 : Int32)), (.int (0 : Int32)), (.int (0 : Int32)), (.int (0 : Int32)), (.int (0 : Int32)), (.int (0 : Int32)), (.int (0 : Int32)), (.int (0 : Int32)), (.int (0 : Int32)), (.int (0 : Int32)), (.int (0 : Int32)), (.int (0 : Int32)), (.int (0 : Int32)), (.int (0 : Int32)), (.int (0 : Int32)), (.int (0 : Int32)), (.int (0 : Int32)), (.int (0 : Int32))] (.int (0 : Int32)) := (Arv.new A1 (by decide)).pad (pad_rep [] (.int (0 : Int32)) 25)
  obtain ⟨car3, Aar3, qar3, Sar3, Nar3, Har3, Gar3⟩ := id V_b1
  have hinar3 : ¬ ((0 : Int32) < 0 ∨ car3.slots.size ≤ ((0 : Int32)).toNatClampNeg) := inb_of Sar3 ⟨by decide, by decide⟩
  obtain ⟨T4, h4, X4, e4, W4, st4⟩ := stI X1 hx hZ e1 Aar3 (j := (0 : Int32)) hinar3 (g := (mkF m 7 #[.val (.int p1), .val (.int p2), .val (.int p3), .val (.int p4), .unset, .unset] [(.int (0 : Int32)), (.int (0 : Int32)), (.ref b1), (.ref b1)])) rfl rfl (hb hby at_7)
  have V4 : Arv Z h4 b1 k1 .int (25 : Int32) [(.int (0 : Int32)), (.int (0 : Int32)), (.int (0 : Int32)), (.int (0 : Int32)), (.int (0 : Int32)), (.int (0 : Int32)), (.int (0 : Int32)), (.int (0 : Int32)), (.int (0 : Int32)), (.int (0 : Int32)), (.int (0 : Int32)), (.int (0 : Int32)), (.int (0 : Int32)), (.int (0 : Int32)), (.int (0 : Int32)), (.int (0 : Int32)), (.int (0 : Int32)), (.int (0 : Int32)), (.int (0 : Int32)), (.int (0 : Int32)), (.int (0 : Int32)), (.int (0 : Int32)), (.int (0 : Int32)), (.int (0 : Int32)), (.int (0 : Int32))] (.int (0 : Int32)) := Arv.set Aar3 qar3 Sar3 Nar3 Har3 Gar3 rfl W4 0 rfl (Nat.le_of_ble_eq_true rfl)
  have zs6 : n0 ≤ h4.size := Nat.le_trans zs2 (Keep.of_wr W4).1
  have N7 := Fr.snoc X4 N0 g_b1
  obtain ⟨car8, Aar8, qar8, Sar8, Nar8, Har8, Gar8⟩ := id V4
  have hinar8 : ¬ ((1 : Int32) < 0 ∨ car8.slots.size ≤ ((1 : Int32)).toNatClampNeg) := inb_of Sar8 ⟨by decide, by decide⟩
  obtain ⟨T9, h9, X9, e9, W9, st9⟩ := stI X4 hx hZ e4 Aar8 (j := (1 : Int32)) hinar8 (g := (mkF m 12 #[.val (.int p1), .val (.int p2), .val (.int p3), .val (.int p4), .unset, .unset] [(.int (8 : Int32)), (.int (1 : Int32)), (.ref b1), (.ref b1)])) rfl rfl (hb hby at_12)
  have V9 : Arv Z h9 b1 k1 .int (25 : Int32) [(.int (0 : Int32)), (.int (8 : Int32)), (.int (0 : Int32)), (.int (0 : Int32)), (.int (0 : Int32)), (.int (0 : Int32)), (.int (0 : Int32)), (.int (0 : Int32)), (.int (0 : Int32)), (.int (0 : Int32)), (.int (0 : Int32)), (.int (0 : Int32)), (.int (0 : Int32)), (.int (0 : Int32)), (.int (0 : Int32)), (.int (0 : Int32)), (.int (0 : Int32)), (.int (0 : Int32)), (.int (0 : Int32)), (.int (0 : Int32)), (.int (0 : Int32)), (.int (0 : Int32)), (.int (0 : Int32)), (.int (0 : Int32)), (.int (0 : Int32))] (.int (0 : Int32)) := Arv.set Aar8 qar8 Sar8 Nar8 Har8 Gar8 rfl W9 1 rfl (Nat.le_of_ble_eq_true rfl)
  have zs11 : n0 ≤ h9.size := Nat.le_trans zs6 (Keep.of_wr W9).1
  have N12 := Fr.snoc X9 N7 g_b1
  obtain ⟨car13, Aar13, qar13, Sar13, Nar13, Har13, Gar13⟩ := id V9
  have hinar13 : ¬ ((2 : Int32) < 0 ∨ car13.slots.size ≤ ((2 : Int32)).toNatClampNeg) := inb_of Sar13 ⟨by decide, by decide⟩
  obtain ⟨T14, h14, X14, e14, W14, st14⟩ := stI X9 hx hZ e9 Aar13 (j := (2 : Int32)) hinar13 (g := (mkF m 17 #[.val (.int p1), .val (.int p2), .val (.int p3), .val (.int p4), .unset, .unset] [(.int (9 : Int32)), (.int (2 : Int32)), (.ref b1), (.ref b1)])) rfl rfl (hb hby at_17)
  have V14 : Arv Z h14 b1 k1 .int (25 : Int32) [(.int (0 : Int32)), (.int (8 : Int32)), (.int (9 : Int32)), (.int (0 : Int32)), (.int (0 : Int32)), (.int (0 : Int32)), (.int (0 : Int32)), (.int (0 : Int32)), (.int (0 : Int32)), (.int (0 : Int32)), (.int (0 : Int32)), (.int (0 : Int32)), (.int (0 : Int32)), (.int (0 : Int32)), (.int (0 : Int32)), (.int (0 : Int32)), (.int (0 : Int32)), (.int (0 : Int32)), (.int (0 : Int32)), (.int (0 : Int32)), (.int (0 : Int32)), (.int (0 : Int32)), (.int (0 : Int32)), (.int (0 : Int32)), (.int (0 : Int32))] (.int (0 : Int32)) := Arv.set Aar13 qar13 Sar13 Nar13 Har13 Gar13 rfl W14 2 rfl (Nat.le_of_ble_eq_true rfl)
  have zs16 : n0 ≤ h14.size := Nat.le_trans zs11 (Keep.of_wr W14).1
  have N17 := Fr.snoc X14 N12 g_b1
  obtain ⟨car18, Aar18, qar18, Sar18, Nar18, Har18, Gar18⟩ := id V14
  have hinar18 : ¬ ((3 : Int32) < 0 ∨ car18.slots.size ≤ ((3 : Int32)).toNatClampNeg) := inb_of Sar18 ⟨by decide, by decide⟩
  obtain ⟨T19, h19, X19, e19, W19, st19⟩ := stI X14 hx hZ e14 Aar18 (j := (3 : Int32)) hinar18 (g := (mkF m 22 #[.val (.int p1), .val (.int p2), .val (.int p3), .val (.int p4), .unset, .unset] [(.int (10 : Int32)), (.int (3 : Int32)), (.ref b1), (.ref b1)])) rfl rfl (hb hby at_22)
  have V19 : Arv Z h19 b1 k1 .int (25 : Int32) [(.int (0 : Int32)), (.int (8 : Int32)), (.int (9 : Int32)), (.int (10 : Int32)), (.int (0 : Int32)), (.int (0 : Int32)), (.int (0 : Int32)), (.int (0 : Int32)), (.int (0 : Int32)), (.int (0 : Int32)), (.int (0 : Int32)), (.int (0 : Int32)), (.int (0 : Int32)), (.int (0 : Int32)), (.int (0 : Int32)), (.int (0 : Int32)), (.int (0 : Int32)), (.int (0 : Int32)), (.int (0 : Int32)), (.int (0 : Int32)), (.int (0 : Int32)), (.int (0 : Int32)), (.int (0 : Int32)), (.int (0 : Int32)), (.int (0 : Int32))] (.int (0 : Int32)) := Arv.set Aar18 qar18 Sar18 Nar18 Har18 Gar18 rfl W19 3 rfl (Nat.le_of_ble_eq_true rfl)
  have zs21 : n0 ≤ h19.size := Nat.le_trans zs16 (Keep.of_wr W19).1
  have N22 := Fr.snoc X19 N17 g_b1
  obtain ⟨car23, Aar23, qar23, Sar23, Nar23, Har23, Gar23⟩ := id V19
  have hinar23 : ¬ ((4 : Int32) < 0 ∨ car23.slots.size ≤ ((4 : Int32)).toNatClampNeg) := inb_of Sar23 ⟨by decide, by decide⟩
  obtain ⟨T24, h24, X24, e24, W24, st24⟩ := stI X19 hx hZ e19 Aar23 (j := (4 : Int32)) hinar23 (g := (mkF m 27 #[.val (.int p1), .val (.int p2), .val (.int p3), .val (.int p4), .unset, .unset] [(.int (11 : Int32)), (.int (4 : Int32)), (.ref b1), (.ref b1)])) rfl rfl (hb hby at_27)
  have V24 : Arv Z h24 b1 k1 .int (25 : Int32) [(.int (0 : Int32)), (.int (8 : Int32)), (.int (9 : Int32)), (.int (10 : Int32)), (.int (11 : Int32)), (.int (0 : Int32)), (.int (0 : Int32)), (.int (0 : Int32)), (.int (0 : Int32)), (.int (0 : Int32)), (.int (0 : Int32)), (.int (0 : Int32)), (.int (0 : Int32)), (.int (0 : Int32)), (.int (0 : Int32)), (.int (0 : Int32)), (.int (0 : Int32)), (.int (0 : Int32)), (.int (0 : Int32)), (.int (0 : Int32)), (.int (0 : Int32)), (.int (0 : Int32)), (.int (0 : Int32)), (.int (0 : Int32)), (.int (0 : Int32))] (.int (0 : Int32)) := Arv.set Aar23 qar23 Sar23 Nar23 Har23 Gar23 rfl W24 4 rfl (Nat.le_of_ble_eq_true rfl)
  have zs26 : n0 ≤ h24.size := Nat.le_trans zs21 (Keep.of_wr W24).1
  have N27 := Fr.snoc X24 N22 g_b1
  obtain ⟨car28, Aar28, qar28, Sar28, Nar28, Har28, Gar28⟩ := id V24
  have hinar28 : ¬ ((5 : Int32) < 0 ∨ car28.slots.size ≤ ((5 : Int32)).toNatClampNeg) := inb_of Sar28 ⟨by decide, by decide⟩
  obtain ⟨T29, h29, X29, e29, W29, st29⟩ := stI X24 hx hZ e24 Aar28 (j := (5 : Int32)) hinar28 (g := (mkF m 32 #[.val (.int p1), .val (.int p2), .val (.int p3), .val (.int p4), .unset, .unset] [(.int (12 : Int32)), (.int (5 : Int32)), (.ref b1), (.ref b1)])) rfl rfl (hb hby at_32)
  have V29 : Arv Z h29 b1 k1 .int (25 : Int32) [(.int (0 : Int32)), (.int (8 : Int32)), (.int (9 : Int32)), (.int (10 : Int32)), (.int (11 : Int32)), (.int (12 : Int32)), (.int (0 : Int32)), (.int (0 : Int32)), (.int (0 : Int32)), (.int (0 : Int32)), (.int (0 : Int32)), (.int (0 : Int32)), (.int (0 : Int32)), (.int (0 : Int32)), (.int (0 : Int32)), (.int (0 : Int32)), (.int (0 : Int32)), (.int (0 : Int32)), (.int (0 : Int32)), (.int (0 : Int32)), (.int (0 : Int32)), (.int (0 : Int32)), (.int (0 : Int32)), (.int (0 : Int32)), (.int (0 : Int32))] (.int (0 : Int32)) := Arv.set Aar28 qar28 Sar28 Nar28 Har28 Gar28 rfl W29 5 rfl (Nat.le_of_ble_eq_true rfl)
  have zs31 : n0 ≤ h29.size := Nat.le_trans zs26 (Keep.of_wr W29).1
  have N32 := Fr.snoc X29 N27 g_b1
  obtain ⟨car33, Aar33, qar33, Sar33, Nar33, Har33, Gar33⟩ := id V29
  have hinar33 : ¬ ((6 : Int32) < 0 ∨ car33.slots.size ≤ ((6 : Int32)).toNatClampNeg) := inb_of Sar33 ⟨by decide, by decide⟩
  obtain ⟨T34, h34, X34, e34, W34, st34⟩ := stI X29 hx hZ e29 Aar33 (j := (6 : Int32)) hinar33 (g := (mkF m 38 #[.val (.int p1), .val (.int p2), .val (.int p3), .val (.int p4), .unset, .unset] [(.int (13 : Int32)), (.int (6 : Int32)), (.ref b1), (.ref b1)])) rfl rfl (hb hby at_38)
  have V34 : Arv Z h34 b1 k1 .int (25 : Int32) [(.int (0 : Int32)), (.int (8 : Int32)), (.int (9 : Int32)), (.int (10 : Int32)), (.int (11 : Int32)), (.int (12 : Int32)), (.int (13 : Int32)), (.int (0 : Int32)), (.int (0 : Int32)), (.int (0 : Int32)), (.int (0 : Int32)), (.int (0 : Int32)), (.int (0 : Int32)), (.int (0 : Int32)), (.int (0 : Int32)), (.int (0 : Int32)), (.int (0 : Int32)), (.int (0 : Int32)), (.int (0 : Int32)), (.int (0 : Int32)), (.int (0 : Int32)), (.int (0 : Int32)), (.int (0 : Int32)), (.int (0 : Int32)), (.int (0 : Int32))] (.int (0 : Int32)) := Arv.set Aar33 qar33 Sar33 Nar33 Har33 Gar33 rfl W34 6 rfl (Nat.le_of_ble_eq_true rfl)
  have zs36 : n0 ≤ h34.size := Nat.le_trans zs31 (Keep.of_wr W34).1
  have N37 := Fr.snoc X34 N32 g_b1
  obtain ⟨car38, Aar38, qar38, Sar38, Nar38, Har38, Gar38⟩ := id V34
  have hinar38 : ¬ ((7 : Int32) < 0 ∨ car38.slots.size ≤ ((7 : Int32)).toNatClampNeg) := inb_of Sar38 ⟨by decide, by decide⟩
  obtain ⟨T39, h39, X39, e39, W39, st39⟩ := stI X34 hx hZ e34 Aar38 (j := (7 : Int32)) hinar38 (g := (mkF m 44 #[.val (.int p1), .val (.int p2), .val (.int p3), .val (.int p4), .unset, .unset] [(.int (14 : Int32)), (.int (7 : Int32)), (.ref b1), (.ref b1)])) rfl rfl (hb hby at_44)
  have V39 : Arv Z h39 b1 k1 .int (25 : Int32) [(.int (0 : Int32)), (.int (8 : Int32)), (.int (9 : Int32)), (.int (10 : Int32)), (.int (11 : Int32)), (.int (12 : Int32)), (.int (13 : Int32)), (.int (14 : Int32)), (.int (0 : Int32)), (.int (0 : Int32)), (.int (0 : Int32)), (.int (0 : Int32)), (.int (0 : Int32)), (.int (0 : Int32)), (.int (0 : Int32)), (.int (0 : Int32)), (.int (0 : Int32)), (.int (0 : Int32)), (.int (0 : Int32)), (.int (0 : Int32)), (.int (0 : Int32)), (.int (0 : Int32)), (.int (0 : Int32)), (.int (0 : Int32)), (.int (0 : Int32))] (.int (0 : Int32)) := Arv.set Aar38 qar38 Sar38 Nar38 Har38 Gar38 rfl W39 7 rfl (Nat.le_of_ble_eq_true rfl)
  have zs41 : n0 ≤ h39.size := Nat.le_trans zs36 (Keep.of_wr W39).1
  have N42 := Fr.snoc X39 N37 g_b1
  obtain ⟨car43, Aar43, qar43, Sar43, Nar43, Har43, Gar43⟩ := id V39
  have hinar43 : ¬ ((8 : Int32) < 0 ∨ car43.slots.size ≤ ((8 : Int32)).toNatClampNeg) := inb_of Sar43 ⟨by decide, by decide⟩
  obtain ⟨T44, h44, X44, e44, W44, st44⟩ := stI X39 hx hZ e39 Aar43 (j := (8 : Int32)) hinar43 (g := (mkF m 50 #[.val (.int p1), .val (.int p2), .val (.int p3), .val (.int p4), .unset, .unset] [(.int (31 : Int32)), (.int (8 : Int32)), (.ref b1), (.ref b1)])) rfl rfl (hb hby at_50)
  have V44 : Arv Z h44 b1 k1 .int (25 : Int32) [(.int (0 : Int32)), (.int (8 : Int32)), (.int (9 : Int32)), (.int (10 : Int32)), (.int (11 : Int32)), (.int (12 : Int32)), (.int (13 : Int32)), (.int (14 : Int32)), (.int (31 : Int32)), (.int (0 : Int32)), (.int (0 : Int32)), (.int (0 : Int32)), (.int (0 : Int32)), (.int (0 : Int32)), (.int (0 : Int32)), (.int (0 : Int32)), (.int (0 : Int32)), (.int (0 : Int32)), (.int (0 : Int32)), (.int (0 : Int32)), (.int (0 : Int32)), (.int (0 : Int32)), (.int (0 : Int32)), (.int (0 : Int32)), (.int (0 : Int32))] (.int (0 : Int32)) := Arv.set Aar43 qar43 Sar43 Nar43 Har43 Gar43 rfl W44 8 rfl (Nat.le_of_ble_eq_true rfl)
  have zs46 : n0 ≤ h44.size := Nat.le_trans zs41 (Keep.of_wr W44).1
  have N47 := Fr.snoc X44 N42 g_b1
  obtain ⟨car48, Aar48, qar48, Sar48, Nar48, Har48, Gar48⟩ := id V44
  have hinar48 : ¬ ((9 : Int32) < 0 ∨ car48.slots.size ≤ ((9 : Int32)).toNatClampNeg) := inb_of Sar48 ⟨by decide, by decide⟩
  obtain ⟨T49, h49, X49, e49, W49, st49⟩ := stI X44 hx hZ e44 Aar48 (j := (9 : Int32)) hinar48 (g := (mkF m 56 #[.val (.int p1), .val (.int p2), .val (.int p3), .val (.int p4), .unset, .unset] [(.int (32 : Int32)), (.int (9 : Int32)), (.ref b1), (.ref b1)])) rfl rfl (hb hby at_56)
  have V49 : Arv Z h49 b1 k1 .int (25 : Int32) [(.int (0 : Int32)), (.int (8 : Int32)), (.int (9 : Int32)), (.int (10 : Int32)), (.int (11 : Int32)), (.int (12 : Int32)), (.int (13 : Int32)), (.int (14 : Int32)), (.int (31 : Int32)), (.int (32 : Int32)), (.int (0 : Int32)), (.int (0 : Int32)), (.int (0 : Int32)), (.int (0 : Int32)), (.int (0 : Int32)), (.int (0 : Int32)), (.int (0 : Int32)), (.int (0 : Int32)), (.int (0 : Int32)), (.int (0 : Int32)), (.int (0 : Int32)), (.int (0 : Int32)), (.int (0 : Int32)), (.int (0 : Int32)), (.int (0 : Int32))] (.int (0 : Int32)) := Arv.set Aar48 qar48 Sar48 Nar48 Har48 Gar48 rfl W49 9 rfl (Nat.le_of_ble_eq_true rfl)
  have zs51 : n0 ≤ h49.size := Nat.le_trans zs46 (Keep.of_wr W49).1
  have N52 := Fr.snoc X49 N47 g_b1
  obtain ⟨car53, Aar53, qar53, Sar53, Nar53, Har53, Gar53⟩ := id V49
  have hinar53 : ¬ ((10 : Int32) < 0 ∨ car53.slots.size ≤ ((10 : Int32)).toNatClampNeg) := inb_of Sar53 ⟨by decide, by decide⟩
  obtain ⟨T54, h54, X54, e54, W54, st54⟩ := stI X49 hx hZ e49 Aar53 (j := (10 : Int32)) hinar53 (g := (mkF m 62 #[.val (.int p1), .val (.int p2), .val (.int p3), .val (.int p4), .unset, .unset] [(.int (127 : Int32)), (.int (10 : Int32)), (.ref b1), (.ref b1)])) rfl rfl (hb hby at_62)
  have V54 : Arv Z h54 b1 k1 .int (25 : Int32) [(.int (0 : Int32)), (.int (8 : Int32)), (.int (9 : Int32)), (.int (10 : Int32)), (.int (11 : Int32)), (.int (12 : Int32)), (.int (13 : Int32)), (.int (14 : Int32)), (.int (31 : Int32)), (.int (32 : Int32)), (.int (127 : Int32)), (.int (0 : Int32)), (.int (0 : Int32)), (.int (0 : Int32)), (.int (0 : Int32)), (.int (0 : Int32)), (.int (0 : Int32)), (.int (0 : Int32)), (.int (0 : Int32)), (.int (0 : Int32)), (.int (0 : Int32)), (.int (0 : Int32)), (.int (0 : Int32)), (.int (0 : Int32)), (.int (0 : Int32))] (.int (0 : Int32)) := Arv.set Aar53 qar53 Sar53 Nar53 Har53 Gar53 rfl W54 10 rfl (Nat.le_of_ble_eq_true rfl)
  have zs56 : n0 ≤ h54.size := Nat.le_trans zs51 (Keep.of_wr W54).1
  have N57 := Fr.snoc X54 N52 g_b1
  obtain ⟨car58, Aar58, qar58, Sar58, Nar58, Har58, Gar58⟩ := id V54
  have hinar58 : ¬ ((11 : Int32) < 0 ∨ car58.slots.size ≤ ((11 : Int32)).toNatClampNeg) := inb_of Sar58 ⟨by decide, by decide⟩
  obtain ⟨T59, h59, X59, e59, W59, st59⟩ := stI X54 hx hZ e54 Aar58 (j := (11 : Int32)) hinar58 (g := (mkF m 68 #[.val (.int p1), .val (.int p2), .val (.int p3), .val (.int p4), .unset, .unset] [(.int (55295 : Int32)), (.int (11 : Int32)), (.ref b1), (.ref b1)])) rfl rfl (hb hby at_68)
  have V59 : Arv Z h59 b1 k1 .int (25 : Int32) [(.int (0 : Int32)), (.int (8 : Int32)), (.int (9 : Int32)), (.int (10 : Int32)), (.int (11 : Int32)), (.int (12 : Int32)), (.int (13 : Int32)), (.int (14 : Int32)), (.int (31 : Int32)), (.int (32 : Int32)), (.int (127 : Int32)), (.int (55295 : Int32)), (.int (0 : Int32)), (.int (0 : Int32)), (.int (0 : Int32)), (.int (0 : Int32)), (.int (0 : Int32)), (.int (0 : Int32)), (.int (0 : Int32)), (.int (0 : Int32)), (.int (0 : Int32)), (.int (0 : Int32)), (.int (0 : Int32)), (.int (0 : Int32)), (.int (0 : Int32))] (.int (0 : Int32)) := Arv.set Aar58 qar58 Sar58 Nar58 Har58 Gar58 rfl W59 11 rfl (Nat.le_of_ble_eq_true rfl)
  have zs61 : n0 ≤ h59.size := Nat.le_trans zs56 (Keep.of_wr W59).1
  have N62 := Fr.snoc X59 N57 g_b1
  obtain ⟨car63, Aar63, qar63, Sar63, Nar63, Har63, Gar63⟩ := id V59
  have hinar63 : ¬ ((12 : Int32) < 0 ∨ car63.slots.size ≤ ((12 : Int32)).toNatClampNeg) := inb_of Sar63 ⟨by decide, by decide⟩
  obtain ⟨T64, h64, X64, e64, W64, st64⟩ := stI X59 hx hZ e59 Aar63 (j := (12 : Int32)) hinar63 (g := (mkF m 74 #[.val (.int p1), .val (.int p2), .val (.int p3), .val (.int p4), .unset, .unset] [(.int (55296 : Int32)), (.int (12 : Int32)), (.ref b1), (.ref b1)])) rfl rfl (hb hby at_74)
  have V64 : Arv Z h64 b1 k1 .int (25 : Int32) [(.int (0 : Int32)), (.int (8 : Int32)), (.int (9 : Int32)), (.int (10 : Int32)), (.int (11 : Int32)), (.int (12 : Int32)), (.int (13 : Int32)), (.int (14 : Int32)), (.int (31 : Int32)), (.int (32 : Int32)), (.int (127 : Int32)), (.int (55295 : Int32)), (.int (55296 : Int32)), (.int (0 : Int32)), (.int (0 : Int32)), (.int (0 : Int32)), (.int (0 : Int32)), (.int (0 : Int32)), (.int (0 : Int32)), (.int (0 : Int32)), (.int (0 : Int32)), (.int (0 : Int32)), (.int (0 : Int32)), (.int (0 : Int32)), (.int (0 : Int32))] (.int (0 : Int32)) := Arv.set Aar63 qar63 Sar63 Nar63 Har63 Gar63 rfl W64 12 rfl (Nat.le_of_ble_eq_true rfl)
  have zs66 : n0 ≤ h64.size := Nat.le_trans zs61 (Keep.of_wr W64).1
  have N67 := Fr.snoc X64 N62 g_b1
  obtain ⟨car68, Aar68, qar68, Sar68, Nar68, Har68, Gar68⟩ := id V64
  have hinar68 : ¬ ((13 : Int32) < 0 ∨ car68.slots.size ≤ ((13 : Int32)).toNatClampNeg) := inb_of Sar68 ⟨by decide, by decide⟩
  obtain ⟨T69, h69, X69, e69, W69, st69⟩ := stI X64 hx hZ e64 Aar68 (j := (13 : Int32)) hinar68 (g := (mkF m 80 #[.val (.int p1), .val (.int p2), .val (.int p3), .val (.int p4), .unset, .unset] [(.int (56319 : Int32)), (.int (13 : Int32)), (.ref b1), (.ref b1)])) rfl rfl (hb hby at_80)
  have V69 : Arv Z h69 b1 k1 .int (25 : Int32) [(.int (0 : Int32)), (.int (8 : Int32)), (.int (9 : Int32)), (.int (10 : Int32)), (.int (11 : Int32)), (.int (12 : Int32)), (.int (13 : Int32)), (.int (14 : Int32)), (.int (31 : Int32)), (.int (32 : Int32)), (.int (127 : Int32)), (.int (55295 : Int32)), (.int (55296 : Int32)), (.int (56319 : Int32)), (.int (0 : Int32)), (.int (0 : Int32)), (.int (0 : Int32)), (.int (0 : Int32)), (.int (0 : Int32)), (.int (0 : Int32)), (.int (0 : Int32)), (.int (0 : Int32)), (.int (0 : Int32)), (.int (0 : Int32)), (.int (0 : Int32))] (.int (0 : Int32)) := Arv.set Aar68 qar68 Sar68 Nar68 Har68 Gar68 rfl W69 13 rfl (Nat.le_of_ble_eq_true rfl)
  have zs71 : n0 ≤ h69.size := Nat.le_trans zs66 (Keep.of_wr W69).1
  have N72 := Fr.snoc X69 N67 g_b1
  obtain ⟨car73, Aar73, qar73, Sar73, Nar73, Har73, Gar73⟩ := id V69
  have hinar73 : ¬ ((14 : Int32) < 0 ∨ car73.slots.size ≤ ((14 : Int32)).toNatClampNeg) := inb_of Sar73 ⟨by decide, by decide⟩
  obtain ⟨T74, h74, X74, e74, W74, st74⟩ := stI X69 hx hZ e69 Aar73 (j := (14 : Int32)) hinar73 (g := (mkF m 86 #[.val (.int p1), .val (.int p2), .val (.int p3), .val (.int p4), .unset, .unset] [(.int (56320 : Int32)), (.int (14 : Int32)), (.ref b1), (.ref b1)])) rfl rfl (hb hby at_86)
  have V74 : Arv Z h74 b1 k1 .int (25 : Int32) [(.int (0 : Int32)), (.int (8 : Int32)), (.int (9 : Int32)), (.int (10 : Int32)), (.int (11 : Int32)), (.int (12 : Int32)), (.int (13 : Int32)), (.int (14 : Int32)), (.int (31 : Int32)), (.int (32 : Int32)), (.int (127 : Int32)), (.int (55295 : Int32)), (.int (55296 : Int32)), (.int (56319 : Int32)), (.int (56320 : Int32)), (.int (0 : Int32)), (.int (0 : Int32)), (.int (0 : Int32)), (.int (0 : Int32)), (.int (0 : Int32)), (.int (0 : Int32)), (.int (0 : Int32)), (.int (0 : Int32)), (.int (0 : Int32)), (.int (0 : Int32))] (.int (0 : Int32)) := Arv.set Aar73 qar73 Sar73 Nar73 Har73 Gar73 rfl W74 14 rfl (Nat.le_of_ble_eq_true rfl)
  have zs76 : n0 ≤ h74.size := Nat.le_trans zs71 (Keep.of_wr W74).1
  have N77 := Fr.snoc X74 N72 g_b1
  obtain ⟨car78, Aar78, qar78, Sar78, Nar78, Har78, Gar78⟩ := id V74
  have hinar78 : ¬ ((15 : Int32) < 0 ∨ car78.slots.size ≤ ((15 : Int32)).toNatClampNeg) := inb_of Sar78 ⟨by decide, by decide⟩
  obtain ⟨T79, h79, X79, e79, W79, st79⟩ := stI X74 hx hZ e74 Aar78 (j := (15 : Int32)) hinar78 (g := (mkF m 92 #[.val (.int p1), .val (.int p2), .val (.int p3), .val (.int p4), .unset, .unset] [(.int (57343 : Int32)), (.int (15 : Int32)), (.ref b1), (.ref b1)])) rfl rfl (hb hby at_92)
  have V79 : Arv Z h79 b1 k1 .int (25 : Int32) [(.int (0 : Int32)), (.int (8 : Int32)), (.int (9 : Int32)), (.int (10 : Int32)), (.int (11 : Int32)), (.int (12 : Int32)), (.int (13 : Int32)), (.int (14 : Int32)), (.int (31 : Int32)), (.int (32 : Int32)), (.int (127 : Int32)), (.int (55295 : Int32)), (.int (55296 : Int32)), (.int (56319 : Int32)), (.int (56320 : Int32)), (.int (57343 : Int32)), (.int (0 : Int32)), (.int (0 : Int32)), (.int (0 : Int32)), (.int (0 : Int32)), (.int (0 : Int32)), (.int (0 : Int32)), (.int (0 : Int32)), (.int (0 : Int32)), (.int (0 : Int32))] (.int (0 : Int32)) := Arv.set Aar78 qar78 Sar78 Nar78 Har78 Gar78 rfl W79 15 rfl (Nat.le_of_ble_eq_true rfl)
  have zs81 : n0 ≤ h79.size := Nat.le_trans zs76 (Keep.of_wr W79).1
  have N82 := Fr.snoc X79 N77 g_b1
  obtain ⟨car83, Aar83, qar83, Sar83, Nar83, Har83, Gar83⟩ := id V79
  have hinar83 : ¬ ((16 : Int32) < 0 ∨ car83.slots.size ≤ ((16 : Int32)).toNatClampNeg) := inb_of Sar83 ⟨by decide, by decide⟩
  obtain ⟨T84, h84, X84, e84, W84, st84⟩ := stI X79 hx hZ e79 Aar83 (j := (16 : Int32)) hinar83 (g := (mkF m 98 #[.val (.int p1), .val (.int p2), .val (.int p3), .val (.int p4), .unset, .unset] [(.int (57344 : Int32)), (.int (16 : Int32)), (.ref b1), (.ref b1)])) rfl rfl (hb hby at_98)
  have V84 : Arv Z h84 b1 k1 .int (25 : Int32) [(.int (0 : Int32)), (.int (8 : Int32)), (.int (9 : Int32)), (.int (10 : Int32)), (.int (11 : Int32)), (.int (12 : Int32)), (.int (13 : Int32)), (.int (14 : Int32)), (.int (31 : Int32)), (.int (32 : Int32)), (.int (127 : Int32)), (.int (55295 : Int32)), (.int (55296 : Int32)), (.int (56319 : Int32)), (.int (56320 : Int32)), (.int (57343 : Int32)), (.int (57344 : Int32)), (.int (0 : Int32)), (.int (0 : Int32)), (.int (0 : Int32)), (.int (0 : Int32)), (.int (0 : Int32)), (.int (0 : Int32)), (.int (0 : Int32)), (.int (0 : Int32))] (.int (0 : Int32)) := Arv.set Aar83 qar83 Sar83 Nar83 Har83 Gar83 rfl W84 16 rfl (Nat.le_of_ble_eq_true rfl)
  have zs86 : n0 ≤ h84.size := Nat.le_trans zs81 (Keep.of_wr W84).1
  have N87 := Fr.snoc X84 N82 g_b1
  obtain ⟨car88, Aar88, qar88, Sar88, Nar88, Har88, Gar88⟩ := id V84
  have hinar88 : ¬ ((17 : Int32) < 0 ∨ car88.slots.size ≤ ((17 : Int32)).toNatClampNeg) := inb_of Sar88 ⟨by decide, by decide⟩
  obtain ⟨T89, h89, X89, e89, W89, st89⟩ := stI X84 hx hZ e84 Aar88 (j := (17 : Int32)) hinar88 (g := (mkF m 104 #[.val (.int p1), .val (.int p2), .val (.int p3), .val (.int p4), .unset, .unset] [(.int (65533 : Int32)), (.int (17 : Int32)), (.ref b1), (.ref b1)])) rfl rfl (hb hby at_104)
  have V89 : Arv Z h89 b1 k1 .int (25 : Int32) [(.int (0 : Int32)), (.int (8 : Int32)), (.int (9 : Int32)), (.int (10 : Int32)), (.int (11 : Int32)), (.int (12 : Int32)), (.int (13 : Int32)), (.int (14 : Int32)), (.int (31 : Int32)), (.int (32 : Int32)), (.int (127 : Int32)), (.int (55295 : Int32)), (.int (55296 : Int32)), (.int (56319 : Int32)), (.int (56320 : Int32)), (.int (57343 : Int32)), (.int (57344 : Int32)), (.int (65533 : Int32)), (.int (0 : Int32)), (.int (0 : Int32)), (.int (0 : Int32)), (.int (0 : Int32)), (.int (0 : Int32)), (.int (0 : Int32)), (.int (0 : Int32))] (.int (0 : Int32)) := Arv.set Aar88 qar88 Sar88 Nar88 Har88 Gar88 rfl W89 17 rfl (Nat.le_of_ble_eq_true rfl)
  have zs91 : n0 ≤ h89.size := Nat.le_trans zs86 (Keep.of_wr W89).1
  have N92 := Fr.snoc X89 N87 g_b1
  obtain ⟨car93, Aar93, qar93, Sar93, Nar93, Har93, Gar93⟩ := id V89
  have hinar93 : ¬ ((18 : Int32) < 0 ∨ car93.slots.size ≤ ((18 : Int32)).toNatClampNeg) := inb_of Sar93 ⟨by decide, by decide⟩
  obtain ⟨T94, h94, X94, e94, W94, st94⟩ := stI X89 hx hZ e89 Aar93 (j := (18 : Int32)) hinar93 (g := (mkF m 110 #[.val (.int p1), .val (.int p2), .val (.int p3), .val (.int p4), .unset, .unset] [(.int (65534 : Int32)), (.int (18 : Int32)), (.ref b1), (.ref b1)])) rfl rfl (hb hby at_110)
  have V94 : Arv Z h94 b1 k1 .int (25 : Int32) [(.int (0 : Int32)), (.int (8 : Int32)), (.int (9 : Int32)), (.int (10 : Int32)), (.int (11 : Int32)), (.int (12 : Int32)), (.int (13 : Int32)), (.int (14 : Int32)), (.int (31 : Int32)), (.int (32 : Int32)), (.int (127 : Int32)), (.int (55295 : Int32)), (.int (55296 : Int32)), (.int (56319 : Int32)), (.int (56320 : Int32)), (.int (57343 : Int32)), (.int (57344 : Int32)), (.int (65533 : Int32)), (.int (65534 : Int32)), (.int (0 : Int32)), (.int (0 : Int32)), (.int (0 : Int32)), (.int (0 : Int32)), (.int (0 : Int32)), (.int (0 : Int32))] (.int (0 : Int32)) := Arv.set Aar93 qar93 Sar93 Nar93 Har93 Gar93 rfl W94 18 rfl (Nat.le_of_ble_eq_true rfl)
  have zs96 : n0 ≤ h94.size := Nat.le_trans zs91 (Keep.of_wr W94).1
  have N97 := Fr.snoc X94 N92 g_b1
  obtain ⟨car98, Aar98, qar98, Sar98, Nar98, Har98, Gar98⟩ := id V94
  have hinar98 : ¬ ((19 : Int32) < 0 ∨ car98.slots.size ≤ ((19 : Int32)).toNatClampNeg) := inb_of Sar98 ⟨by decide, by decide⟩
  obtain ⟨T99, h99, X99, e99, W99, st99⟩ := stI X94 hx hZ e94 Aar98 (j := (19 : Int32)) hinar98 (g := (mkF m 116 #[.val (.int p1), .val (.int p2), .val (.int p3), .val (.int p4), .unset, .unset] [(.int (65535 : Int32)), (.int (19 : Int32)), (.ref b1), (.ref b1)])) rfl rfl (hb hby at_116)
  have V99 : Arv Z h99 b1 k1 .int (25 : Int32) [(.int (0 : Int32)), (.int (8 : Int32)), (.int (9 : Int32)), (.int (10 : Int32)), (.int (11 : Int32)), (.int (12 : Int32)), (.int (13 : Int32)), (.int (14 : Int32)), (.int (31 : Int32)), (.int (32 : Int32)), (.int (127 : Int32)), (.int (55295 : Int32)), (.int (55296 : Int32)), (.int (56319 : Int32)), (.int (56320 : Int32)), (.int (57343 : Int32)), (.int (57344 : Int32)), (.int (65533 : Int32)), (.int (65534 : Int32)), (.int (65535 : Int32)), (.int (0 : Int32)), (.int (0 : Int32)), (.int (0 : Int32)), (.int (0 : Int32)), (.int (0 : Int32))] (.int (0 : Int32)) := Arv.set Aar98 qar98 Sar98 Nar98 Har98 Gar98 rfl W99 19 rfl (Nat.le_of_ble_eq_true rfl)
  have zs101 : n0 ≤ h99.size := Nat.le_trans zs96 (Keep.of_wr W99).1
  have N102 := Fr.snoc X99 N97 g_b1
  obtain ⟨car103, Aar103, qar103, Sar103, Nar103, Har103, Gar103⟩ := id V99
  have hinar103 : ¬ ((20 : Int32) < 0 ∨ car103.slots.size ≤ ((20 : Int32)).toNatClampNeg) := inb_of Sar103 ⟨by decide, by decide⟩
  obtain ⟨T104, h104, X104, e104, W104, st104⟩ := stI X99 hx hZ e99 Aar103 (j := (20 : Int32)) hinar103 (g := (mkF m 122 #[.val (.int p1), .val (.int p2), .val (.int p3), .val (.int p4), .unset, .unset] [(.int (65536 : Int32)), (.int (20 : Int32)), (.ref b1), (.ref b1)])) rfl rfl (hb hby at_122)
  have V104 : Arv Z h104 b1 k1 .int (25 : Int32) [(.int (0 : Int32)), (.int (8 : Int32)), (.int (9 : Int32)), (.int (10 : Int32)), (.int (11 : Int32)), (.int (12 : Int32)), (.int (13 : Int32)), (.int (14 : Int32)), (.int (31 : Int32)), (.int (32 : Int32)), (.int (127 : Int32)), (.int (55295 : Int32)), (.int (55296 : Int32)), (.int (56319 : Int32)), (.int (56320 : Int32)), (.int (57343 : Int32)), (.int (57344 : Int32)), (.int (65533 : Int32)), (.int (65534 : Int32)), (.int (65535 : Int32)), (.int (65536 : Int32)), (.int (0 : Int32)), (.int (0 : Int32)), (.int (0 : Int32)), (.int (0 : Int32))] (.int (0 : Int32)) := Arv.set Aar103 qar103 Sar103 Nar103 Har103 Gar103 rfl W104 20 rfl (Nat.le_of_ble_eq_true rfl)
  have zs106 : n0 ≤ h104.size := Nat.le_trans zs101 (Keep.of_wr W104).1
  have N107 := Fr.snoc X104 N102 g_b1
  obtain ⟨car108, Aar108, qar108, Sar108, Nar108, Har108, Gar108⟩ := id V104
  have hinar108 : ¬ ((21 : Int32) < 0 ∨ car108.slots.size ≤ ((21 : Int32)).toNatClampNeg) := inb_of Sar108 ⟨by decide, by decide⟩
  obtain ⟨T109, h109, X109, e109, W109, st109⟩ := stI X104 hx hZ e104 Aar108 (j := (21 : Int32)) hinar108 (g := (mkF m 128 #[.val (.int p1), .val (.int p2), .val (.int p3), .val (.int p4), .unset, .unset] [(.int (1114111 : Int32)), (.int (21 : Int32)), (.ref b1), (.ref b1)])) rfl rfl (hb hby at_128)
  have V109 : Arv Z h109 b1 k1 .int (25 : Int32) [(.int (0 : Int32)), (.int (8 : Int32)), (.int (9 : Int32)), (.int (10 : Int32)), (.int (11 : Int32)), (.int (12 : Int32)), (.int (13 : Int32)), (.int (14 : Int32)), (.int (31 : Int32)), (.int (32 : Int32)), (.int (127 : Int32)), (.int (55295 : Int32)), (.int (55296 : Int32)), (.int (56319 : Int32)), (.int (56320 : Int32)), (.int (57343 : Int32)), (.int (57344 : Int32)), (.int (65533 : Int32)), (.int (65534 : Int32)), (.int (65535 : Int32)), (.int (65536 : Int32)), (.int (1114111 : Int32)), (.int (0 : Int32)), (.int (0 : Int32)), (.int (0 : Int32))] (.int (0 : Int32)) := Arv.set Aar108 qar108 Sar108 Nar108 Har108 Gar108 rfl W109 21 rfl (Nat.le_of_ble_eq_true rfl)
  have zs111 : n0 ≤ h109.size := Nat.le_trans zs106 (Keep.of_wr W109).1
  have N112 := Fr.snoc X109 N107 g_b1
  obtain ⟨car113, Aar113, qar113, Sar113, Nar113, Har113, Gar113⟩ := id V109
  have hinar113 : ¬ ((22 : Int32) < 0 ∨ car113.slots.size ≤ ((22 : Int32)).toNatClampNeg) := inb_of Sar113 ⟨by decide, by decide⟩
  obtain ⟨T114, h114, X114, e114, W114, st114⟩ := stI X109 hx hZ e109 Aar113 (j := (22 : Int32)) hinar113 (g := (mkF m 134 #[.val (.int p1), .val (.int p2), .val (.int p3), .val (.int p4), .unset, .unset] [(.int (1114112 : Int32)), (.int (22 : Int32)), (.ref b1), (.ref b1)])) rfl rfl (hb hby at_134)
  have V114 : Arv Z h114 b1 k1 .int (25 : Int32) [(.int (0 : Int32)), (.int (8 : Int32)), (.int (9 : Int32)), (.int (10 : Int32)), (.int (11 : Int32)), (.int (12 : Int32)), (.int (13 : Int32)), (.int (14 : Int32)), (.int (31 : Int32)), (.int (32 : Int32)), (.int (127 : Int32)), (.int (55295 : Int32)), (.int (55296 : Int32)), (.int (56319 : Int32)), (.int (56320 : Int32)), (.int (57343 : Int32)), (.int (57344 : Int32)), (.int (65533 : Int32)), (.int (65534 : Int32)), (.int (65535 : Int32)), (.int (65536 : Int32)), (.int (1114111 : Int32)), (.int (1114112 : Int32)), (.int (0 : Int32)), (.int (0 : Int32))] (.int (0 : Int32)) := Arv.set Aar113 qar113 Sar113 Nar113 Har113 Gar113 rfl W114 22 rfl (Nat.le_of_ble_eq_true rfl)
  have zs116 : n0 ≤ h114.size := Nat.le_trans zs111 (Keep.of_wr W114).1
  have N117 := Fr.snoc X114 N112 g_b1
  obtain ⟨car118, Aar118, qar118, Sar118, Nar118, Har118, Gar118⟩ := id V114
  have hinar118 : ¬ ((23 : Int32) < 0 ∨ car118.slots.size ≤ ((23 : Int32)).toNatClampNeg) := inb_of Sar118 ⟨by decide, by decide⟩
  obtain ⟨T119, h119, X119, e119, W119, st119⟩ := stI X114 hx hZ e114 Aar118 (j := (23 : Int32)) hinar118 (g := (mkF m 140 #[.val (.int p1), .val (.int p2), .val (.int p3), .val (.int p4), .unset, .unset] [(.int (-2147483648 : Int32)), (.int (23 : Int32)), (.ref b1), (.ref b1)])) rfl rfl (hb hby at_140)
  have V119 : Arv Z h119 b1 k1 .int (25 : Int32) [(.int (0 : Int32)), (.int (8 : Int32)), (.int (9 : Int32)), (.int (10 : Int32)), (.int (11 : Int32)), (.int (12 : Int32)), (.int (13 : Int32)), (.int (14 : Int32)), (.int (31 : Int32)), (.int (32 : Int32)), (.int (127 : Int32)), (.int (55295 : Int32)), (.int (55296 : Int32)), (.int (56319 : Int32)), (.int (56320 : Int32)), (.int (57343 : Int32)), (.int (57344 : Int32)), (.int (65533 : Int32)), (.int (65534 : Int32)), (.int (65535 : Int32)), (.int (65536 : Int32)), (.int (1114111 : Int32)), (.int (1114112 : Int32)), (.int (-2147483648 : Int32)), (.int (0 : Int32))] (.int (0 : Int32)) := Arv.set Aar118 qar118 Sar118 Nar118 Har118 Gar118 rfl W119 23 rfl (Nat.le_of_ble_eq_true rfl)
  have zs121 : n0 ≤ h119.size := Nat.le_trans zs116 (Keep.of_wr W119).1
  have N122 := Fr.snoc X119 N117 g_b1
  obtain ⟨car123, Aar123, qar123, Sar123, Nar123, Har123, Gar123⟩ := id V119
  have hinar123 : ¬ ((24 : Int32) < 0 ∨ car123.slots.size ≤ ((24 : Int32)).toNatClampNeg) := inb_of Sar123 ⟨by decide, by decide⟩
  obtain ⟨T124, h124, X124, e124, W124, st124⟩ := stI X119 hx hZ e119 Aar123 (j := (24 : Int32)) hinar123 (g := (mkF m 146 #[.val (.int p1), .val (.int p2), .val (.int p3), .val (.int p4), .unset, .unset] [(.int (2147483647 : Int32)), (.int (24 : Int32)), (.ref b1), (.ref b1)])) rfl rfl (hb hby at_146)
  have V124 : Arv Z h124 b1 k1 .int (25 : Int32) [(.int (0 : Int32)), (.int (8 : Int32)), (.int (9 : Int32)), (.int (10 : Int32)), (.int (11 : Int32)), (.int (12 : Int32)), (.int (13 : Int32)), (.int (14 : Int32)), (.int (31 : Int32)), (.int (32 : Int32)), (.int (127 : Int32)), (.int (55295 : Int32)), (.int (55296 : Int32)), (.int (56319 : Int32)), (.int (56320 : Int32)), (.int (57343 : Int32)), (.int (57344 : Int32)), (.int (65533 : Int32)), (.int (65534 : Int32)), (.int (65535 : Int32)), (.int (65536 : Int32)), (.int (1114111 : Int32)), (.int (1114112 : Int32)), (.int (-2147483648 : Int32)), (.int (2147483647 : Int32))] (.int (0 : Int32)) := Arv.set Aar123 qar123 Sar123 Nar123 Har123 Gar123 rfl W124 24 rfl (Nat.le_of_ble_eq_true rfl)
  have zs126 : n0 ≤ h124.size := Nat.le_trans zs121 (Keep.of_wr W124).1
  have N127 := Fr.snoc X124 N122 g_b1
  have pre128 : ∀ t, Steps p.tables e below (T124.setTop (mkF m 152 #[.val (.int p1), .val (.int p2), .val (.int p3), .val (.int p4), .val (.ref b1), .unset] [(.int (p4 &&& (1 : Int32)))])) t → Steps p.tables e below (s₁.setTop (entryFrame m #[(.int p1), (.int p2), (.int p3), (.int p4)] maxLocals)) t := fun t k => pre0 t (by
    show Steps p.tables e below (s₁.setTop (mkF m 0 #[.val (.int p1), .val (.int p2), .val (.int p3), .val (.int p4), .unset, .unset] [])) _
    refine XS.bipush X0.here hx rfl (hb hby at_0) ?_
    show Steps p.tables e below (s₁.setTop (mkF m 2 #[.val (.int p1), .val (.int p2), .val (.int p3), .val (.int p4), .unset, .unset] [(.int (25 : Int32))])) _
    refine st1 _ ?_
    show Steps p.tables e below (T1.setTop (mkF m 4 #[.val (.int p1), .val (.int p2), .val (.int p3), .val (.int p4), .unset, .unset] [(.ref b1)])) _
    refine XS.dup X1.here hx rfl (hb hby at_4) rfl rfl ?_
    show Steps p.tables e below (T1.setTop (mkF m 5 #[.val (.int p1), .val (.int p2), .val (.int p3), .val (.int p4), .unset, .unset] [(.ref b1), (.ref b1)])) _
    refine XS.iconst X1.here hx rfl (hb hby at_5) ?_
    show Steps p.tables e below (T1.setTop (mkF m 6 #[.val (.int p1), .val (.int p2), .val (.int p3), .val (.int p4), .unset, .unset] [(.int (0 : Int32)), (.ref b1), (.ref b1)])) _
    refine XS.iconst X1.here hx rfl (hb hby at_6) ?_
    show Steps p.tables e below (T1.setTop (mkF m 7 #[.val (.int p1), .val (.int p2), .val (.int p3), .val (.int p4), .unset, .unset] [(.int (0 : Int32)), (.int (0 : Int32)), (.ref b1), (.ref b1)])) _
    refine st4 _ ?_
    show Steps p.tables e below (T4.setTop (mkF m 8 #[.val (.int p1), .val (.int p2), .val (.int p3), .val (.int p4), .unset, .unset] [(.ref b1)])) _
    refine XS.dup X4.here hx rfl (hb hby at_8) rfl rfl ?_
    show Steps p.tables e below (T4.setTop (mkF m 9 #[.val (.int p1), .val (.int p2), .val (.int p3), .val (.int p4), .unset, .unset] [(.ref b1), (.ref b1)])) _
    refine XS.iconst X4.here hx rfl (hb hby at_9) ?_
    show Steps p.tables e below (T4.setTop (mkF m 10 #[.val (.int p1), .val (.int p2), .val (.int p3), .val (.int p4), .unset, .unset] [(.int (1 : Int32)), (.ref b1), (.ref b1)])) _
    refine XS.bipush X4.here hx rfl (hb hby at_10) ?_
    show Steps p.tables e below (T4.setTop (mkF m 12 #[.val (.int p1), .val (.int p2), .val (.int p3), .val (.int p4), .unset, .unset] [(.int (8 : Int32)), (.int (1 : Int32)), (.ref b1), (.ref b1)])) _
    refine st9 _ ?_
    show Steps p.tables e below (T9.setTop (mkF m 13 #[.val (.int p1), .val (.int p2), .val (.int p3), .val (.int p4), .unset, .unset] [(.ref b1)])) _
    refine XS.dup X9.here hx rfl (hb hby at_13) rfl rfl ?_
    show Steps p.tables e below (T9.setTop (mkF m 14 #[.val (.int p1), .val (.int p2), .val (.int p3), .val (.int p4), .unset, .unset] [(.ref b1), (.ref b1)])) _
    refine XS.iconst X9.here hx rfl (hb hby at_14) ?_
    show Steps p.tables e below (T9.setTop (mkF m 15 #[.val (.int p1), .val (.int p2), .val (.int p3), .val (.int p4), .unset, .unset] [(.int (2 : Int32)), (.ref b1), (.ref b1)])) _
    refine XS.bipush X9.here hx rfl (hb hby at_15) ?_
    show Steps p.tables e below (T9.setTop (mkF m 17 #[.val (.int p1), .val (.int p2), .val (.int p3), .val (.int p4), .unset, .unset] [(.int (9 : Int32)), (.int (2 : Int32)), (.ref b1), (.ref b1)])) _
    refine st14 _ ?_
    show Steps p.tables e below (T14.setTop (mkF m 18 #[.val (.int p1), .val (.int p2), .val (.int p3), .val (.int p4), .unset, .unset] [(.ref b1)])) _
    refine XS.dup X14.here hx rfl (hb hby at_18) rfl rfl ?_
    show Steps p.tables e below (T14.setTop (mkF m 19 #[.val (.int p1), .val (.int p2), .val (.int p3), .val (.int p4), .unset, .unset] [(.ref b1), (.ref b1)])) _
    refine XS.iconst X14.here hx rfl (hb hby at_19) ?_
    show Steps p.tables e below (T14.setTop (mkF m 20 #[.val (.int p1), .val (.int p2), .val (.int p3), .val (.int p4), .unset, .unset] [(.int (3 : Int32)), (.ref b1), (.ref b1)])) _
    refine XS.bipush X14.here hx rfl (hb hby at_20) ?_
    show Steps p.tables e below (T14.setTop (mkF m 22 #[.val (.int p1), .val (.int p2), .val (.int p3), .val (.int p4), .unset, .unset] [(.int (10 : Int32)), (.int (3 : Int32)), (.ref b1), (.ref b1)])) _
    refine st19 _ ?_
    show Steps p.tables e below (T19.setTop (mkF m 23 #[.val (.int p1), .val (.int p2), .val (.int p3), .val (.int p4), .unset, .unset] [(.ref b1)])) _
    refine XS.dup X19.here hx rfl (hb hby at_23) rfl rfl ?_
    show Steps p.tables e below (T19.setTop (mkF m 24 #[.val (.int p1), .val (.int p2), .val (.int p3), .val (.int p4), .unset, .unset] [(.ref b1), (.ref b1)])) _
    refine XS.iconst X19.here hx rfl (hb hby at_24) ?_
    show Steps p.tables e below (T19.setTop (mkF m 25 #[.val (.int p1), .val (.int p2), .val (.int p3), .val (.int p4), .unset, .unset] [(.int (4 : Int32)), (.ref b1), (.ref b1)])) _
    refine XS.bipush X19.here hx rfl (hb hby at_25) ?_
    show Steps p.tables e below (T19.setTop (mkF m 27 #[.val (.int p1), .val (.int p2), .val (.int p3), .val (.int p4), .unset, .unset] [(.int (11 : Int32)), (.int (4 : Int32)), (.ref b1), (.ref b1)])) _
    refine st24 _ ?_
    show Steps p.tables e below (T24.setTop (mkF m 28 #[.val (.int p1), .val (.int p2), .val (.int p3), .val (.int p4), .unset, .unset] [(.ref b1)])) _
    refine XS.dup X24.here hx rfl (hb hby at_28) rfl rfl ?_
    show Steps p.tables e below (T24.setTop (mkF m 29 #[.val (.int p1), .val (.int p2), .val (.int p3), .val (.int p4), .unset, .unset] [(.ref b1), (.ref b1)])) _
    refine XS.iconst X24.here hx rfl (hb hby at_29) ?_
    show Steps p.tables e below (T24.setTop (mkF m 30 #[.val (.int p1), .val (.int p2), .val (.int p3), .val (.int p4), .unset, .unset] [(.int (5 : Int32)), (.ref b1), (.ref b1)])) _
    refine XS.bipush X24.here hx rfl (hb hby at_30) ?_
    show Steps p.tables e below (T24.setTop (mkF m 32 #[.val (.int p1), .val (.int p2), .val (.int p3), .val (.int p4), .unset, .unset] [(.int (12 : Int32)), (.int (5 : Int32)), (.ref b1), (.ref b1)])) _
    refine st29 _ ?_
    show Steps p.tables e below (T29.setTop (mkF m 33 #[.val (.int p1), .val (.int p2), .val (.int p3), .val (.int p4), .unset, .unset] [(.ref b1)])) _
    refine XS.dup X29.here hx rfl (hb hby at_33) rfl rfl ?_
    show Steps p.tables e below (T29.setTop (mkF m 34 #[.val (.int p1), .val (.int p2), .val (.int p3), .val (.int p4), .unset, .unset] [(.ref b1), (.ref b1)])) _
    refine XS.bipush X29.here hx rfl (hb hby at_34) ?_
    show Steps p.tables e below (T29.setTop (mkF m 36 #[.val (.int p1), .val (.int p2), .val (.int p3), .val (.int p4), .unset, .unset] [(.int (6 : Int32)), (.ref b1), (.ref b1)])) _
    refine XS.bipush X29.here hx rfl (hb hby at_36) ?_
    show Steps p.tables e below (T29.setTop (mkF m 38 #[.val (.int p1), .val (.int p2), .val (.int p3), .val (.int p4), .unset, .unset] [(.int (13 : Int32)), (.int (6 : Int32)), (.ref b1), (.ref b1)])) _
    refine st34 _ ?_
    show Steps p.tables e below (T34.setTop (mkF m 39 #[.val (.int p1), .val (.int p2), .val (.int p3), .val (.int p4), .unset, .unset] [(.ref b1)])) _
    refine XS.dup X34.here hx rfl (hb hby at_39) rfl rfl ?_
    show Steps p.tables e below (T34.setTop (mkF m 40 #[.val (.int p1), .val (.int p2), .val (.int p3), .val (.int p4), .unset, .unset] [(.ref b1), (.ref b1)])) _
    refine XS.bipush X34.here hx rfl (hb hby at_40) ?_
    show Steps p.tables e below (T34.setTop (mkF m 42 #[.val (.int p1), .val (.int p2), .val (.int p3), .val (.int p4), .unset, .unset] [(.int (7 : Int32)), (.ref b1), (.ref b1)])) _
    refine XS.bipush X34.here hx rfl (hb hby at_42) ?_
    show Steps p.tables e below (T34.setTop (mkF m 44 #[.val (.int p1), .val (.int p2), .val (.int p3), .val (.int p4), .unset, .unset] [(.int (14 : Int32)), (.int (7 : Int32)), (.ref b1), (.ref b1)])) _
    refine st39 _ ?_
    show Steps p.tables e below (T39.setTop (mkF m 45 #[.val (.int p1), .val (.int p2), .val (.int p3), .val (.int p4), .unset, .unset] [(.ref b1)])) _
    refine XS.dup X39.here hx rfl (hb hby at_45) rfl rfl ?_
    show Steps p.tables e below (T39.setTop (mkF m 46 #[.val (.int p1), .val (.int p2), .val (.int p3), .val (.int p4), .unset, .unset] [(.ref b1), (.ref b1)])) _
    refine XS.bipush X39.here hx rfl (hb hby at_46) ?_
    show Steps p.tables e below (T39.setTop (mkF m 48 #[.val (.int p1), .val (.int p2), .val (.int p3), .val (.int p4), .unset, .unset] [(.int (8 : Int32)), (.ref b1), (.ref b1)])) _
    refine XS.bipush X39.here hx rfl (hb hby at_48) ?_
    show Steps p.tables e below (T39.setTop (mkF m 50 #[.val (.int p1), .val (.int p2), .val (.int p3), .val (.int p4), .unset, .unset] [(.int (31 : Int32)), (.int (8 : Int32)), (.ref b1), (.ref b1)])) _
    refine st44 _ ?_
    show Steps p.tables e below (T44.setTop (mkF m 51 #[.val (.int p1), .val (.int p2), .val (.int p3), .val (.int p4), .unset, .unset] [(.ref b1)])) _
    refine XS.dup X44.here hx rfl (hb hby at_51) rfl rfl ?_
    show Steps p.tables e below (T44.setTop (mkF m 52 #[.val (.int p1), .val (.int p2), .val (.int p3), .val (.int p4), .unset, .unset] [(.ref b1), (.ref b1)])) _
    refine XS.bipush X44.here hx rfl (hb hby at_52) ?_
    show Steps p.tables e below (T44.setTop (mkF m 54 #[.val (.int p1), .val (.int p2), .val (.int p3), .val (.int p4), .unset, .unset] [(.int (9 : Int32)), (.ref b1), (.ref b1)])) _
    refine XS.bipush X44.here hx rfl (hb hby at_54) ?_
    show Steps p.tables e below (T44.setTop (mkF m 56 #[.val (.int p1), .val (.int p2), .val (.int p3), .val (.int p4), .unset, .unset] [(.int (32 : Int32)), (.int (9 : Int32)), (.ref b1), (.ref b1)])) _
    refine st49 _ ?_
    show Steps p.tables e below (T49.setTop (mkF m 57 #[.val (.int p1), .val (.int p2), .val (.int p3), .val (.int p4), .unset, .unset] [(.ref b1)])) _
    refine XS.dup X49.here hx rfl (hb hby at_57) rfl rfl ?_
    show Steps p.tables e below (T49.setTop (mkF m 58 #[.val (.int p1), .val (.int p2), .val (.int p3), .val (.int p4), .unset, .unset] [(.ref b1), (.ref b1)])) _
    refine XS.bipush X49.here hx rfl (hb hby at_58) ?_
    show Steps p.tables e below (T49.setTop (mkF m 60 #[.val (.int p1), .val (.int p2), .val (.int p3), .val (.int p4), .unset, .unset] [(.int (10 : Int32)), (.ref b1), (.ref b1)])) _
    refine XS.bipush X49.here hx rfl (hb hby at_60) ?_
    show Steps p.tables e below (T49.setTop (mkF m 62 #[.val (.int p1), .val (.int p2), .val (.int p3), .val (.int p4), .unset, .unset] [(.int (127 : Int32)), (.int (10 : Int32)), (.ref b1), (.ref b1)])) _
    refine st54 _ ?_
    show Steps p.tables e below (T54.setTop (mkF m 63 #[.val (.int p1), .val (.int p2), .val (.int p3), .val (.int p4), .unset, .unset] [(.ref b1)])) _
    refine XS.dup X54.here hx rfl (hb hby at_63) rfl rfl ?_
    show Steps p.tables e below (T54.setTop (mkF m 64 #[.val (.int p1), .val (.int p2), .val (.int p3), .val (.int p4), .unset, .unset] [(.ref b1), (.ref b1)])) _
    refine XS.bipush X54.here hx rfl (hb hby at_64) ?_
    show Steps p.tables e below (T54.setTop (mkF m 66 #[.val (.int p1), .val (.int p2), .val (.int p3), .val (.int p4), .unset, .unset] [(.int (11 : Int32)), (.ref b1), (.ref b1)])) _
    refine X54.ldcInt hx hown (mvT hZ (hw _ (List.mem_of_getElem? (i := 1) rfl))) (g := (mkF m 66 #[.val (.int p1), .val (.int p2), .val (.int p3), .val (.int p4), .unset, .unset] [(.int (11 : Int32)), (.ref b1), (.ref b1)])) rfl (hb hby at_66) _ ?_
    show Steps p.tables e below (T54.setTop (mkF m 68 #[.val (.int p1), .val (.int p2), .val (.int p3), .val (.int p4), .unset, .unset] [(.int (55295 : Int32)), (.int (11 : Int32)), (.ref b1), (.ref b1)])) _
    refine st59 _ ?_
    show Steps p.tables e below (T59.setTop (mkF m 69 #[.val (.int p1), .val (.int p2), .val (.int p3), .val (.int p4), .unset, .unset] [(.ref b1)])) _
    refine XS.dup X59.here hx rfl (hb hby at_69) rfl rfl ?_
    show Steps p.tables e below (T59.setTop (mkF m 70 #[.val (.int p1), .val (.int p2), .val (.int p3), .val (.int p4), .unset, .unset] [(.ref b1), (.ref b1)])) _
    refine XS.bipush X59.here hx rfl (hb hby at_70) ?_
    show Steps p.tables e below (T59.setTop (mkF m 72 #[.val (.int p1), .val (.int p2), .val (.int p3), .val (.int p4), .unset, .unset] [(.int (12 : Int32)), (.ref b1), (.ref b1)])) _
    refine X59.ldcInt hx hown (mvT hZ (hw _ (List.mem_of_getElem? (i := 2) rfl))) (g := (mkF m 72 #[.val (.int p1), .val (.int p2), .val (.int p3), .val (.int p4), .unset, .unset] [(.int (12 : Int32)), (.ref b1), (.ref b1)])) rfl (hb hby at_72) _ ?_
    show Steps p.tables e below (T59.setTop (mkF m 74 #[.val (.int p1), .val (.int p2), .val (.int p3), .val (.int p4), .unset, .unset] [(.int (55296 : Int32)), (.int (12 : Int32)), (.ref b1), (.ref b1)])) _
    refine st64 _ ?_
    show Steps p.tables e below (T64.setTop (mkF m 75 #[.val (.int p1), .val (.int p2), .val (.int p3), .val (.int p4), .unset, .unset] [(.ref b1)])) _
    refine XS.dup X64.here hx rfl (hb hby at_75) rfl rfl ?_
    show Steps p.tables e below (T64.setTop (mkF m 76 #[.val (.int p1), .val (.int p2), .val (.int p3), .val (.int p4), .unset, .unset] [(.ref b1), (.ref b1)])) _
    refine XS.bipush X64.here hx rfl (hb hby at_76) ?_
    show Steps p.tables e below (T64.setTop (mkF m 78 #[.val (.int p1), .val (.int p2), .val (.int p3), .val (.int p4), .unset, .unset] [(.int (13 : Int32)), (.ref b1), (.ref b1)])) _
    refine X64.ldcInt hx hown (mvT hZ (hw _ (List.mem_of_getElem? (i := 3) rfl))) (g := (mkF m 78 #[.val (.int p1), .val (.int p2), .val (.int p3), .val (.int p4), .unset, .unset] [(.int (13 : Int32)), (.ref b1), (.ref b1)])) rfl (hb hby at_78) _ ?_
    show Steps p.tables e below (T64.setTop (mkF m 80 #[.val (.int p1), .val (.int p2), .val (.int p3), .val (.int p4), .unset, .unset] [(.int (56319 : Int32)), (.int (13 : Int32)), (.ref b1), (.ref b1)])) _
    refine st69 _ ?_
    show Steps p.tables e below (T69.setTop (mkF m 81 #[.val (.int p1), .val (.int p2), .val (.int p3), .val (.int p4), .unset, .unset] [(.ref b1)])) _
    refine XS.dup X69.here hx rfl (hb hby at_81) rfl rfl ?_
    show Steps p.tables e below (T69.setTop (mkF m 82 #[.val (.int p1), .val (.int p2), .val (.int p3), .val (.int p4), .unset, .unset] [(.ref b1), (.ref b1)])) _
    refine XS.bipush X69.here hx rfl (hb hby at_82) ?_
    show Steps p.tables e below (T69.setTop (mkF m 84 #[.val (.int p1), .val (.int p2), .val (.int p3), .val (.int p4), .unset, .unset] [(.int (14 : Int32)), (.ref b1), (.ref b1)])) _
    refine X69.ldcInt hx hown (mvT hZ (hw _ (List.mem_of_getElem? (i := 4) rfl))) (g := (mkF m 84 #[.val (.int p1), .val (.int p2), .val (.int p3), .val (.int p4), .unset, .unset] [(.int (14 : Int32)), (.ref b1), (.ref b1)])) rfl (hb hby at_84) _ ?_
    show Steps p.tables e below (T69.setTop (mkF m 86 #[.val (.int p1), .val (.int p2), .val (.int p3), .val (.int p4), .unset, .unset] [(.int (56320 : Int32)), (.int (14 : Int32)), (.ref b1), (.ref b1)])) _
    refine st74 _ ?_
    show Steps p.tables e below (T74.setTop (mkF m 87 #[.val (.int p1), .val (.int p2), .val (.int p3), .val (.int p4), .unset, .unset] [(.ref b1)])) _
    refine XS.dup X74.here hx rfl (hb hby at_87) rfl rfl ?_
    show Steps p.tables e below (T74.setTop (mkF m 88 #[.val (.int p1), .val (.int p2), .val (.int p3), .val (.int p4), .unset, .unset] [(.ref b1), (.ref b1)])) _
    refine XS.bipush X74.here hx rfl (hb hby at_88) ?_
    show Steps p.tables e below (T74.setTop (mkF m 90 #[.val (.int p1), .val (.int p2), .val (.int p3), .val (.int p4), .unset, .unset] [(.int (15 : Int32)), (.ref b1), (.ref b1)])) _
    refine X74.ldcInt hx hown (mvT hZ (hw _ (List.mem_of_getElem? (i := 5) rfl))) (g := (mkF m 90 #[.val (.int p1), .val (.int p2), .val (.int p3), .val (.int p4), .unset, .unset] [(.int (15 : Int32)), (.ref b1), (.ref b1)])) rfl (hb hby at_90) _ ?_
    show Steps p.tables e below (T74.setTop (mkF m 92 #[.val (.int p1), .val (.int p2), .val (.int p3), .val (.int p4), .unset, .unset] [(.int (57343 : Int32)), (.int (15 : Int32)), (.ref b1), (.ref b1)])) _
    refine st79 _ ?_
    show Steps p.tables e below (T79.setTop (mkF m 93 #[.val (.int p1), .val (.int p2), .val (.int p3), .val (.int p4), .unset, .unset] [(.ref b1)])) _
    refine XS.dup X79.here hx rfl (hb hby at_93) rfl rfl ?_
    show Steps p.tables e below (T79.setTop (mkF m 94 #[.val (.int p1), .val (.int p2), .val (.int p3), .val (.int p4), .unset, .unset] [(.ref b1), (.ref b1)])) _
    refine XS.bipush X79.here hx rfl (hb hby at_94) ?_
    show Steps p.tables e below (T79.setTop (mkF m 96 #[.val (.int p1), .val (.int p2), .val (.int p3), .val (.int p4), .unset, .unset] [(.int (16 : Int32)), (.ref b1), (.ref b1)])) _
    refine X79.ldcInt hx hown (mvT hZ (hw _ (List.mem_of_getElem? (i := 6) rfl))) (g := (mkF m 96 #[.val (.int p1), .val (.int p2), .val (.int p3), .val (.int p4), .unset, .unset] [(.int (16 : Int32)), (.ref b1), (.ref b1)])) rfl (hb hby at_96) _ ?_
    show Steps p.tables e below (T79.setTop (mkF m 98 #[.val (.int p1), .val (.int p2), .val (.int p3), .val (.int p4), .unset, .unset] [(.int (57344 : Int32)), (.int (16 : Int32)), (.ref b1), (.ref b1)])) _
    refine st84 _ ?_
    show Steps p.tables e below (T84.setTop (mkF m 99 #[.val (.int p1), .val (.int p2), .val (.int p3), .val (.int p4), .unset, .unset] [(.ref b1)])) _
    refine XS.dup X84.here hx rfl (hb hby at_99) rfl rfl ?_
    show Steps p.tables e below (T84.setTop (mkF m 100 #[.val (.int p1), .val (.int p2), .val (.int p3), .val (.int p4), .unset, .unset] [(.ref b1), (.ref b1)])) _
    refine XS.bipush X84.here hx rfl (hb hby at_100) ?_
    show Steps p.tables e below (T84.setTop (mkF m 102 #[.val (.int p1), .val (.int p2), .val (.int p3), .val (.int p4), .unset, .unset] [(.int (17 : Int32)), (.ref b1), (.ref b1)])) _
    refine X84.ldcInt hx hown (mvT hZ (hw _ (List.mem_of_getElem? (i := 7) rfl))) (g := (mkF m 102 #[.val (.int p1), .val (.int p2), .val (.int p3), .val (.int p4), .unset, .unset] [(.int (17 : Int32)), (.ref b1), (.ref b1)])) rfl (hb hby at_102) _ ?_
    show Steps p.tables e below (T84.setTop (mkF m 104 #[.val (.int p1), .val (.int p2), .val (.int p3), .val (.int p4), .unset, .unset] [(.int (65533 : Int32)), (.int (17 : Int32)), (.ref b1), (.ref b1)])) _
    refine st89 _ ?_
    show Steps p.tables e below (T89.setTop (mkF m 105 #[.val (.int p1), .val (.int p2), .val (.int p3), .val (.int p4), .unset, .unset] [(.ref b1)])) _
    refine XS.dup X89.here hx rfl (hb hby at_105) rfl rfl ?_
    show Steps p.tables e below (T89.setTop (mkF m 106 #[.val (.int p1), .val (.int p2), .val (.int p3), .val (.int p4), .unset, .unset] [(.ref b1), (.ref b1)])) _
    refine XS.bipush X89.here hx rfl (hb hby at_106) ?_
    show Steps p.tables e below (T89.setTop (mkF m 108 #[.val (.int p1), .val (.int p2), .val (.int p3), .val (.int p4), .unset, .unset] [(.int (18 : Int32)), (.ref b1), (.ref b1)])) _
    refine X89.ldcInt hx hown (mvT hZ (hw _ (List.mem_of_getElem? (i := 8) rfl))) (g := (mkF m 108 #[.val (.int p1), .val (.int p2), .val (.int p3), .val (.int p4), .unset, .unset] [(.int (18 : Int32)), (.ref b1), (.ref b1)])) rfl (hb hby at_108) _ ?_
    show Steps p.tables e below (T89.setTop (mkF m 110 #[.val (.int p1), .val (.int p2), .val (.int p3), .val (.int p4), .unset, .unset] [(.int (65534 : Int32)), (.int (18 : Int32)), (.ref b1), (.ref b1)])) _
    refine st94 _ ?_
    show Steps p.tables e below (T94.setTop (mkF m 111 #[.val (.int p1), .val (.int p2), .val (.int p3), .val (.int p4), .unset, .unset] [(.ref b1)])) _
    refine XS.dup X94.here hx rfl (hb hby at_111) rfl rfl ?_
    show Steps p.tables e below (T94.setTop (mkF m 112 #[.val (.int p1), .val (.int p2), .val (.int p3), .val (.int p4), .unset, .unset] [(.ref b1), (.ref b1)])) _
    refine XS.bipush X94.here hx rfl (hb hby at_112) ?_
    show Steps p.tables e below (T94.setTop (mkF m 114 #[.val (.int p1), .val (.int p2), .val (.int p3), .val (.int p4), .unset, .unset] [(.int (19 : Int32)), (.ref b1), (.ref b1)])) _
    refine X94.ldcInt hx hown (mvT hZ (hw _ (List.mem_of_getElem? (i := 9) rfl))) (g := (mkF m 114 #[.val (.int p1), .val (.int p2), .val (.int p3), .val (.int p4), .unset, .unset] [(.int (19 : Int32)), (.ref b1), (.ref b1)])) rfl (hb hby at_114) _ ?_
    show Steps p.tables e below (T94.setTop (mkF m 116 #[.val (.int p1), .val (.int p2), .val (.int p3), .val (.int p4), .unset, .unset] [(.int (65535 : Int32)), (.int (19 : Int32)), (.ref b1), (.ref b1)])) _
    refine st99 _ ?_
    show Steps p.tables e below (T99.setTop (mkF m 117 #[.val (.int p1), .val (.int p2), .val (.int p3), .val (.int p4), .unset, .unset] [(.ref b1)])) _
    refine XS.dup X99.here hx rfl (hb hby at_117) rfl rfl ?_
    show Steps p.tables e below (T99.setTop (mkF m 118 #[.val (.int p1), .val (.int p2), .val (.int p3), .val (.int p4), .unset, .unset] [(.ref b1), (.ref b1)])) _
    refine XS.bipush X99.here hx rfl (hb hby at_118) ?_
    show Steps p.tables e below (T99.setTop (mkF m 120 #[.val (.int p1), .val (.int p2), .val (.int p3), .val (.int p4), .unset, .unset] [(.int (20 : Int32)), (.ref b1), (.ref b1)])) _
    refine X99.ldcInt hx hown (mvT hZ (hw _ (List.mem_of_getElem? (i := 10) rfl))) (g := (mkF m 120 #[.val (.int p1), .val (.int p2), .val (.int p3), .val (.int p4), .unset, .unset] [(.int (20 : Int32)), (.ref b1), (.ref b1)])) rfl (hb hby at_120) _ ?_
    show Steps p.tables e below (T99.setTop (mkF m 122 #[.val (.int p1), .val (.int p2), .val (.int p3), .val (.int p4), .unset, .unset] [(.int (65536 : Int32)), (.int (20 : Int32)), (.ref b1), (.ref b1)])) _
    refine st104 _ ?_
    show Steps p.tables e below (T104.setTop (mkF m 123 #[.val (.int p1), .val (.int p2), .val (.int p3), .val (.int p4), .unset, .unset] [(.ref b1)])) _
    refine XS.dup X104.here hx rfl (hb hby at_123) rfl rfl ?_
    show Steps p.tables e below (T104.setTop (mkF m 124 #[.val (.int p1), .val (.int p2), .val (.int p3), .val (.int p4), .unset, .unset] [(.ref b1), (.ref b1)])) _
    refine XS.bipush X104.here hx rfl (hb hby at_124) ?_
    show Steps p.tables e below (T104.setTop (mkF m 126 #[.val (.int p1), .val (.int p2), .val (.int p3), .val (.int p4), .unset, .unset] [(.int (21 : Int32)), (.ref b1), (.ref b1)])) _
    refine X104.ldcInt hx hown (mvT hZ (hw _ (List.mem_of_getElem? (i := 11) rfl))) (g := (mkF m 126 #[.val (.int p1), .val (.int p2), .val (.int p3), .val (.int p4), .unset, .unset] [(.int (21 : Int32)), (.ref b1), (.ref b1)])) rfl (hb hby at_126) _ ?_
    show Steps p.tables e below (T104.setTop (mkF m 128 #[.val (.int p1), .val (.int p2), .val (.int p3), .val (.int p4), .unset, .unset] [(.int (1114111 : Int32)), (.int (21 : Int32)), (.ref b1), (.ref b1)])) _
    refine st109 _ ?_
    show Steps p.tables e below (T109.setTop (mkF m 129 #[.val (.int p1), .val (.int p2), .val (.int p3), .val (.int p4), .unset, .unset] [(.ref b1)])) _
    refine XS.dup X109.here hx rfl (hb hby at_129) rfl rfl ?_
    show Steps p.tables e below (T109.setTop (mkF m 130 #[.val (.int p1), .val (.int p2), .val (.int p3), .val (.int p4), .unset, .unset] [(.ref b1), (.ref b1)])) _
    refine XS.bipush X109.here hx rfl (hb hby at_130) ?_
    show Steps p.tables e below (T109.setTop (mkF m 132 #[.val (.int p1), .val (.int p2), .val (.int p3), .val (.int p4), .unset, .unset] [(.int (22 : Int32)), (.ref b1), (.ref b1)])) _
    refine X109.ldcInt hx hown (mvT hZ (hw _ (List.mem_of_getElem? (i := 12) rfl))) (g := (mkF m 132 #[.val (.int p1), .val (.int p2), .val (.int p3), .val (.int p4), .unset, .unset] [(.int (22 : Int32)), (.ref b1), (.ref b1)])) rfl (hb hby at_132) _ ?_
    show Steps p.tables e below (T109.setTop (mkF m 134 #[.val (.int p1), .val (.int p2), .val (.int p3), .val (.int p4), .unset, .unset] [(.int (1114112 : Int32)), (.int (22 : Int32)), (.ref b1), (.ref b1)])) _
    refine st114 _ ?_
    show Steps p.tables e below (T114.setTop (mkF m 135 #[.val (.int p1), .val (.int p2), .val (.int p3), .val (.int p4), .unset, .unset] [(.ref b1)])) _
    refine XS.dup X114.here hx rfl (hb hby at_135) rfl rfl ?_
    show Steps p.tables e below (T114.setTop (mkF m 136 #[.val (.int p1), .val (.int p2), .val (.int p3), .val (.int p4), .unset, .unset] [(.ref b1), (.ref b1)])) _
    refine XS.bipush X114.here hx rfl (hb hby at_136) ?_
    show Steps p.tables e below (T114.setTop (mkF m 138 #[.val (.int p1), .val (.int p2), .val (.int p3), .val (.int p4), .unset, .unset] [(.int (23 : Int32)), (.ref b1), (.ref b1)])) _
    refine X114.ldcInt hx hown (mvT hZ (hw _ (List.mem_of_getElem? (i := 13) rfl))) (g := (mkF m 138 #[.val (.int p1), .val (.int p2), .val (.int p3), .val (.int p4), .unset, .unset] [(.int (23 : Int32)), (.ref b1), (.ref b1)])) rfl (hb hby at_138) _ ?_
    show Steps p.tables e below (T114.setTop (mkF m 140 #[.val (.int p1), .val (.int p2), .val (.int p3), .val (.int p4), .unset, .unset] [(.int (-2147483648 : Int32)), (.int (23 : Int32)), (.ref b1), (.ref b1)])) _
    refine st119 _ ?_
    show Steps p.tables e below (T119.setTop (mkF m 141 #[.val (.int p1), .val (.int p2), .val (.int p3), .val (.int p4), .unset, .unset] [(.ref b1)])) _
    refine XS.dup X119.here hx rfl (hb hby at_141) rfl rfl ?_
    show Steps p.tables e below (T119.setTop (mkF m 142 #[.val (.int p1), .val (.int p2), .val (.int p3), .val (.int p4), .unset, .unset] [(.ref b1), (.ref b1)])) _
    refine XS.bipush X119.here hx rfl (hb hby at_142) ?_
    show Steps p.tables e below (T119.setTop (mkF m 144 #[.val (.int p1), .val (.int p2), .val (.int p3), .val (.int p4), .unset, .unset] [(.int (24 : Int32)), (.ref b1), (.ref b1)])) _
    refine X119.ldcInt hx hown (mvT hZ (hw _ (List.mem_of_getElem? (i := 14) rfl))) (g := (mkF m 144 #[.val (.int p1), .val (.int p2), .val (.int p3), .val (.int p4), .unset, .unset] [(.int (24 : Int32)), (.ref b1), (.ref b1)])) rfl (hb hby at_144) _ ?_
    show Steps p.tables e below (T119.setTop (mkF m 146 #[.val (.int p1), .val (.int p2), .val (.int p3), .val (.int p4), .unset, .unset] [(.int (2147483647 : Int32)), (.int (24 : Int32)), (.ref b1), (.ref b1)])) _
    refine st124 _ ?_
    show Steps p.tables e below (T124.setTop (mkF m 147 #[.val (.int p1), .val (.int p2), .val (.int p3), .val (.int p4), .unset, .unset] [(.ref b1)])) _
    refine XS.astore X124.here hx rfl (hb hby at_147) rfl rfl (l' := #[.val (.int p1), .val (.int p2), .val (.int p3), .val (.int p4), .val (.ref b1), .unset]) rfl ?_
    show Steps p.tables e below (T124.setTop (mkF m 149 #[.val (.int p1), .val (.int p2), .val (.int p3), .val (.int p4), .val (.ref b1), .unset] [])) _
    refine XS.iloadN X124.here hx rfl (hb hby at_149) rfl ?_
    show Steps p.tables e below (T124.setTop (mkF m 150 #[.val (.int p1), .val (.int p2), .val (.int p3), .val (.int p4), .val (.ref b1), .unset] [(.int p4)])) _
    refine XS.iconst X124.here hx rfl (hb hby at_150) ?_
    show Steps p.tables e below (T124.setTop (mkF m 151 #[.val (.int p1), .val (.int p2), .val (.int p3), .val (.int p4), .val (.ref b1), .unset] [(.int (1 : Int32)), (.int p4)])) _
    refine XS.iand X124.here hx rfl (hb hby at_151) rfl ?_
    exact k)
  by_cases hc129 : (p4 &&& (1 : Int32)) = (0 : Int32)
  ·  -- pc 152: (p4 &&& (1 : Int32)) = (0 : Int32)
    -- pc 183: Names.isXmlCharacter by rm1
    obtain ⟨_, _, ⟨T130, L130, k130, n130⟩, -, X130, ⟨Lc130, hQ130, l130, y130, z130⟩, st130⟩ := Jvm.LawKit.callS X124 hx (y := (⟨"com/example/strict_allowlist/strictallowlist/cli/Names", "isXmlCharacter", "(I)Z"⟩ : MethodName)) hown (mvT hZ (hw _ (List.mem_of_getElem? (i := 15) rfl))) (mvT hZ (hw _ (List.mem_of_getElem? (i := 16) rfl))) (mvT hZ (hw _ (List.mem_of_getElem? (i := 17) rfl))) (mvT hZ (hw _ (List.mem_of_getElem? (i := 18) rfl))) (by decide) (backOf (W := 0) (rm1 l Z a0 hw [] p1 h124 n0 zs126 ) hZ (hw _ (List.mem_of_getElem? (i := 18) rfl)) (hw _ (List.mem_of_getElem? (i := 17) rfl)) (by decide) (by decide)) (g := (mkF m 183 #[.val (.int p1), .val (.int p2), .val (.int p3), .val (.int p4), .val (.ref b1), .val (.int p1)] [(.int p1)])) rfl (by rw [hml]; rfl) (argsL := [(.int p1)]) (rest := []) (lenOf pd_74 rfl) rfl (by show 2 * 0 + _ ≤ _; exact Nat.le_of_eq rfl) (hb hby at_183) (fun _ _ => ⟨rfl, e124, (by decide : 1 + 0 ≤ _), (by decide : 25 + 0 ≤ _)⟩)
    dsimp only [Pt.U, Pt.locs, Pt.cells, Pt.slots] at X130 l130 y130 z130 st130 hQ130
    subst y130 z130
    obtain ⟨rfl, N130q, e130⟩ := hQ130
    have N131 : Fr n0 L130 := by rw [l130]; exact Fr.app N127 N130q
    -- pc 188: NamesIsXmlCharacterPinLaw.expected by rm2
    obtain ⟨_, _, ⟨T132, L132, k132, n132⟩, -, X132, ⟨Lc132, hQ132, l132, y132, z132⟩, st132⟩ := Jvm.LawKit.callS X130 hx (y := (⟨"com/example/strict_allowlist/strictallowlist/cli/NamesIsXmlCharacterPinLaw", "expected", "(I)Z"⟩ : MethodName)) hown (mvT hZ (hw _ (List.mem_of_getElem? (i := 19) rfl))) (mvT hZ (hw _ (List.mem_of_getElem? (i := 20) rfl))) (mvT hZ (hw _ (List.mem_of_getElem? (i := 21) rfl))) (mvT hZ (hw _ (List.mem_of_getElem? (i := 22) rfl))) (by decide) (backOf (W := 1) (rm2 l Z a0 hw [] p1 h124 n0 zs126 ) hZ (hw _ (List.mem_of_getElem? (i := 22) rfl)) (hw _ (List.mem_of_getElem? (i := 21) rfl)) (by decide) (by decide)) (g := (mkF m 188 #[.val (.int p1), .val (.int p2), .val (.int p3), .val (.int p4), .val (.ref b1), .val (.int p1)] [(.int p1), (.int (f1 p1))])) rfl (by rw [hml]; rfl) (argsL := [(.int p1)]) (rest := [(.int (f1 p1))]) (lenOf pd_74 rfl) rfl (by show 2 * 0 + _ ≤ _; exact Nat.le_of_eq rfl) (hb hby at_188) (fun _ _ => ⟨rfl, e130, (by decide : 1 + 0 ≤ _), (by decide : 25 + 0 ≤ _)⟩)
    dsimp only [Pt.U, Pt.locs, Pt.cells, Pt.slots] at X132 l132 y132 z132 st132 hQ132
    subst y132 z132
    obtain ⟨rfl, N132q, e132⟩ := hQ132
    have N133 : Fr n0 L132 := by rw [l132]; exact Fr.app N131 N132q
    have hs134 : (f1 p1) = (f2 p1) := own_same _
    obtain ⟨fs, hr, hrun, hended, hW, hsame⟩ := X132.leave (v := some (.int (1 : Int32))) (fun h => by rw [Bd.returns] at h; cases h) Bd.notSynchronized
    refine ⟨_, _, pre128 _ ?_, hrun, hended, _, _, rfl, ?_, ⟨_, rfl⟩, hW, hsame.mono (by decide) (by decide)⟩
    · show Steps p.tables e below (T124.setTop (mkF m 152 #[.val (.int p1), .val (.int p2), .val (.int p3), .val (.int p4), .val (.ref b1), .unset] [(.int (p4 &&& (1 : Int32)))])) _
      refine XS.ifNo X124.here hx rfl (hb hby at_152) rfl ((if0 _ _).trans (teq hc129).2) ?_
      show Steps p.tables e below (T124.setTop (mkF m 155 #[.val (.int p1), .val (.int p2), .val (.int p3), .val (.int p4), .val (.ref b1), .unset] [])) _
      refine XS.iloadN X124.here hx rfl (hb hby at_155) rfl ?_
      show Steps p.tables e below (T124.setTop (mkF m 156 #[.val (.int p1), .val (.int p2), .val (.int p3), .val (.int p4), .val (.ref b1), .unset] [(.int p1)])) _
      refine XS.istore X124.here hx rfl (hb hby at_156) rfl (l' := #[.val (.int p1), .val (.int p2), .val (.int p3), .val (.int p4), .val (.ref b1), .val (.int p1)]) rfl ?_
      show Steps p.tables e below (T124.setTop (mkF m 158 #[.val (.int p1), .val (.int p2), .val (.int p3), .val (.int p4), .val (.ref b1), .val (.int p1)] [])) _
      refine XS.goto X124.here hx rfl (pc0 := 158) (pc' := 181) rfl (hb hby at_158) (by decide) (by decide) ?_
      show Steps p.tables e below (T124.setTop (mkF m 181 #[.val (.int p1), .val (.int p2), .val (.int p3), .val (.int p4), .val (.ref b1), .val (.int p1)] [])) _
      refine XS.iload X124.here hx rfl (hb hby at_181) rfl ?_
      show Steps p.tables e below (T124.setTop (mkF m 183 #[.val (.int p1), .val (.int p2), .val (.int p3), .val (.int p4), .val (.ref b1), .val (.int p1)] [(.int p1)])) _
      refine st130 _ ?_
      show Steps p.tables e below (T130.setTop (mkF m 186 #[.val (.int p1), .val (.int p2), .val (.int p3), .val (.int p4), .val (.ref b1), .val (.int p1)] [(.int (f1 p1))])) _
      refine XS.iload X130.here hx rfl (hb hby at_186) rfl ?_
      show Steps p.tables e below (T130.setTop (mkF m 188 #[.val (.int p1), .val (.int p2), .val (.int p3), .val (.int p4), .val (.ref b1), .val (.int p1)] [(.int p1), (.int (f1 p1))])) _
      refine st132 _ ?_
      show Steps p.tables e below (T132.setTop (mkF m 191 #[.val (.int p1), .val (.int p2), .val (.int p3), .val (.int p4), .val (.ref b1), .val (.int p1)] [(.int (f2 p1)), (.int (f1 p1))])) _
      refine XS.icmpNo X132.here hx rfl (hb hby at_191) rfl (teq hs134).2 ?_
      show Steps p.tables e below (T132.setTop (mkF m 194 #[.val (.int p1), .val (.int p2), .val (.int p3), .val (.int p4), .val (.ref b1), .val (.int p1)] [])) _
      refine XS.iconst X132.here hx rfl (hb hby at_194) ?_
      show Steps p.tables e below (T132.setTop (mkF m 195 #[.val (.int p1), .val (.int p2), .val (.int p3), .val (.int p4), .val (.ref b1), .val (.int p1)] [(.int (1 : Int32))])) _
      refine XS.goto X132.here hx rfl (pc0 := 195) (pc' := 199) rfl (hb hby at_195) (by decide) (by decide) ?_
      show Steps p.tables e below (T132.setTop (mkF m 199 #[.val (.int p1), .val (.int p2), .val (.int p3), .val (.int p4), .val (.ref b1), .val (.int p1)] [(.int (1 : Int32))])) _
      exact retN X132 hx (t := .boolean) Bd.returns (by simp) (hb hby at_199) hr
    · show Q0 Z p1 p2 p3 p4 h0 n0 _ T132.heap _
      rw [e132]
      exact ⟨rfl, N133⟩
  ·  -- pc 152: not (p4 &&& (1 : Int32)) = (0 : Int32)
    obtain ⟨car135, Aar135, qar135, Sar135, Nar135, Har135, Gar135⟩ := id V124
    obtain ⟨car136, Aar136, qar136, Sar136, Nar136, Har136, Gar136⟩ := id V124
    have eL : ([(.int (0 : Int32)), (.int (8 : Int32)), (.int (9 : Int32)), (.int (10 : Int32)), (.int (11 : Int32)), (.int (12 : Int32)), (.int (13 : Int32)), (.int (14 : Int32)), (.int (31 : Int32)), (.int (32 : Int32)), (.int (127 : Int32)), (.int (55295 : Int32)), (.int (55296 : Int32)), (.int (56319 : Int32)), (.int (56320 : Int32)), (.int (57343 : Int32)), (.int (57344 : Int32)), (.int (65533 : Int32)), (.int (65534 : Int32)), (.int (65535 : Int32)), (.int (65536 : Int32)), (.int (1114111 : Int32)), (.int (1114112 : Int32)), (.int (-2147483648 : Int32)), (.int (2147483647 : Int32))] : List Value) = List.map Value.int [(0 : Int32), (8 : Int32), (9 : Int32), (10 : Int32), (11 : Int32), (12 : Int32), (13 : Int32), (14 : Int32), (31 : Int32), (32 : Int32), (127 : Int32), (55295 : Int32), (55296 : Int32), (56319 : Int32), (56320 : Int32), (57343 : Int32), (57344 : Int32), (65533 : Int32), (65534 : Int32), (65535 : Int32), (65536 : Int32), (1114111 : Int32), (1114112 : Int32), (-2147483648 : Int32), (2147483647 : Int32)] := rfl
    obtain ⟨ev, hev⟩ : ∃ z : Int32, ([(.int (0 : Int32)), (.int (8 : Int32)), (.int (9 : Int32)), (.int (10 : Int32)), (.int (11 : Int32)), (.int (12 : Int32)), (.int (13 : Int32)), (.int (14 : Int32)), (.int (31 : Int32)), (.int (32 : Int32)), (.int (127 : Int32)), (.int (55295 : Int32)), (.int (55296 : Int32)), (.int (56319 : Int32)), (.int (56320 : Int32)), (.int (57343 : Int32)), (.int (57344 : Int32)), (.int (65533 : Int32)), (.int (65534 : Int32)), (.int (65535 : Int32)), (.int (65536 : Int32)), (.int (1114111 : Int32)), (.int (1114112 : Int32)), (.int (-2147483648 : Int32)), (.int (2147483647 : Int32))] : List Value).getD (((p2 &&& (2147483647 : Int32)) % (25 : Int32))).toNatClampNeg (.int (0 : Int32)) = .int z := by rw [eL]; exact own_ints _ _
    have hinar136 : ¬ (((p2 &&& (2147483647 : Int32)) % (25 : Int32)) < 0 ∨ car136.slots.size ≤ (((p2 &&& (2147483647 : Int32)) % (25 : Int32))).toNatClampNeg) := inb_of Sar136 (own_idx _)
    have hatar136 : car136.slots[(((p2 &&& (2147483647 : Int32)) % (25 : Int32))).toNatClampNeg]? = some (.int ev) := Har136.at hinar136 hev
    -- pc 183: Names.isXmlCharacter by rm1
    obtain ⟨_, _, ⟨T137, L137, k137, n137⟩, -, X137, ⟨Lc137, hQ137, l137, y137, z137⟩, st137⟩ := Jvm.LawKit.callS X124 hx (y := (⟨"com/example/strict_allowlist/strictallowlist/cli/Names", "isXmlCharacter", "(I)Z"⟩ : MethodName)) hown (mvT hZ (hw _ (List.mem_of_getElem? (i := 15) rfl))) (mvT hZ (hw _ (List.mem_of_getElem? (i := 16) rfl))) (mvT hZ (hw _ (List.mem_of_getElem? (i := 17) rfl))) (mvT hZ (hw _ (List.mem_of_getElem? (i := 18) rfl))) (by decide) (backOf (W := 0) (rm1 l Z a0 hw [] (ev + ((p3 &&& (7 : Int32)) - (3 : Int32))) h124 n0 zs126 ) hZ (hw _ (List.mem_of_getElem? (i := 18) rfl)) (hw _ (List.mem_of_getElem? (i := 17) rfl)) (by decide) (by decide)) (g := (mkF m 183 #[.val (.int p1), .val (.int p2), .val (.int p3), .val (.int p4), .val (.ref b1), .val (.int (ev + ((p3 &&& (7 : Int32)) - (3 : Int32))))] [(.int (ev + ((p3 &&& (7 : Int32)) - (3 : Int32))))])) rfl (by rw [hml]; rfl) (argsL := [(.int (ev + ((p3 &&& (7 : Int32)) - (3 : Int32))))]) (rest := []) (lenOf pd_74 rfl) rfl (by show 2 * 0 + _ ≤ _; exact Nat.le_of_eq rfl) (hb hby at_183) (fun _ _ => ⟨rfl, e124, (by decide : 1 + 0 ≤ _), (by decide : 25 + 0 ≤ _)⟩)
    dsimp only [Pt.U, Pt.locs, Pt.cells, Pt.slots] at X137 l137 y137 z137 st137 hQ137
    subst y137 z137
    obtain ⟨rfl, N137q, e137⟩ := hQ137
    have N138 : Fr n0 L137 := by rw [l137]; exact Fr.app N127 N137q
    -- pc 188: NamesIsXmlCharacterPinLaw.expected by rm2
    obtain ⟨_, _, ⟨T139, L139, k139, n139⟩, -, X139, ⟨Lc139, hQ139, l139, y139, z139⟩, st139⟩ := Jvm.LawKit.callS X137 hx (y := (⟨"com/example/strict_allowlist/strictallowlist/cli/NamesIsXmlCharacterPinLaw", "expected", "(I)Z"⟩ : MethodName)) hown (mvT hZ (hw _ (List.mem_of_getElem? (i := 19) rfl))) (mvT hZ (hw _ (List.mem_of_getElem? (i := 20) rfl))) (mvT hZ (hw _ (List.mem_of_getElem? (i := 21) rfl))) (mvT hZ (hw _ (List.mem_of_getElem? (i := 22) rfl))) (by decide) (backOf (W := 1) (rm2 l Z a0 hw [] (ev + ((p3 &&& (7 : Int32)) - (3 : Int32))) h124 n0 zs126 ) hZ (hw _ (List.mem_of_getElem? (i := 22) rfl)) (hw _ (List.mem_of_getElem? (i := 21) rfl)) (by decide) (by decide)) (g := (mkF m 188 #[.val (.int p1), .val (.int p2), .val (.int p3), .val (.int p4), .val (.ref b1), .val (.int (ev + ((p3 &&& (7 : Int32)) - (3 : Int32))))] [(.int (ev + ((p3 &&& (7 : Int32)) - (3 : Int32)))), (.int (f1 (ev + ((p3 &&& (7 : Int32)) - (3 : Int32)))))])) rfl (by rw [hml]; rfl) (argsL := [(.int (ev + ((p3 &&& (7 : Int32)) - (3 : Int32))))]) (rest := [(.int (f1 (ev + ((p3 &&& (7 : Int32)) - (3 : Int32)))))]) (lenOf pd_74 rfl) rfl (by show 2 * 0 + _ ≤ _; exact Nat.le_of_eq rfl) (hb hby at_188) (fun _ _ => ⟨rfl, e137, (by decide : 1 + 0 ≤ _), (by decide : 25 + 0 ≤ _)⟩)
    dsimp only [Pt.U, Pt.locs, Pt.cells, Pt.slots] at X139 l139 y139 z139 st139 hQ139
    subst y139 z139
    obtain ⟨rfl, N139q, e139⟩ := hQ139
    have N140 : Fr n0 L139 := by rw [l139]; exact Fr.app N138 N139q
    have hs141 : (f1 (ev + ((p3 &&& (7 : Int32)) - (3 : Int32)))) = (f2 (ev + ((p3 &&& (7 : Int32)) - (3 : Int32)))) := own_same _
    obtain ⟨fs, hr, hrun, hended, hW, hsame⟩ := X139.leave (v := some (.int (1 : Int32))) (fun h => by rw [Bd.returns] at h; cases h) Bd.notSynchronized
    refine ⟨_, _, pre128 _ ?_, hrun, hended, _, _, rfl, ?_, ⟨_, rfl⟩, hW, hsame.mono (by decide) (by decide)⟩
    · show Steps p.tables e below (T124.setTop (mkF m 152 #[.val (.int p1), .val (.int p2), .val (.int p3), .val (.int p4), .val (.ref b1), .unset] [(.int (p4 &&& (1 : Int32)))])) _
      refine XS.ifYes X124.here hx rfl (pc0 := 152) (pc' := 161) rfl (hb hby at_152) rfl ((if0 _ _).trans (feq hc129).2) (by decide) (by decide) ?_
      show Steps p.tables e below (T124.setTop (mkF m 161 #[.val (.int p1), .val (.int p2), .val (.int p3), .val (.int p4), .val (.ref b1), .unset] [])) _
      refine XS.aload X124.here hx rfl (hb hby at_161) rfl rfl ?_
      show Steps p.tables e below (T124.setTop (mkF m 163 #[.val (.int p1), .val (.int p2), .val (.int p3), .val (.int p4), .val (.ref b1), .unset] [(.ref b1)])) _
      refine XS.iloadN X124.here hx rfl (hb hby at_163) rfl ?_
      show Steps p.tables e below (T124.setTop (mkF m 164 #[.val (.int p1), .val (.int p2), .val (.int p3), .val (.int p4), .val (.ref b1), .unset] [(.int p2), (.ref b1)])) _
      refine X124.ldcInt hx hown (mvT hZ (hw _ (List.mem_of_getElem? (i := 14) rfl))) (g := (mkF m 164 #[.val (.int p1), .val (.int p2), .val (.int p3), .val (.int p4), .val (.ref b1), .unset] [(.int p2), (.ref b1)])) rfl (hb hby at_164) _ ?_
      show Steps p.tables e below (T124.setTop (mkF m 166 #[.val (.int p1), .val (.int p2), .val (.int p3), .val (.int p4), .val (.ref b1), .unset] [(.int (2147483647 : Int32)), (.int p2), (.ref b1)])) _
      refine XS.iand X124.here hx rfl (hb hby at_166) rfl ?_
      show Steps p.tables e below (T124.setTop (mkF m 167 #[.val (.int p1), .val (.int p2), .val (.int p3), .val (.int p4), .val (.ref b1), .unset] [(.int (p2 &&& (2147483647 : Int32))), (.ref b1)])) _
      refine XS.aload X124.here hx rfl (hb hby at_167) rfl rfl ?_
      show Steps p.tables e below (T124.setTop (mkF m 169 #[.val (.int p1), .val (.int p2), .val (.int p3), .val (.int p4), .val (.ref b1), .unset] [(.ref b1), (.int (p2 &&& (2147483647 : Int32))), (.ref b1)])) _
      refine X124.arraylength hx (by rw [e124]; exact Aar135.1) (State.isArrayOf_alike hZ.alike Aar135.2.1) (g := (mkF m 169 #[.val (.int p1), .val (.int p2), .val (.int p3), .val (.int p4), .val (.ref b1), .unset] [(.ref b1), (.int (p2 &&& (2147483647 : Int32))), (.ref b1)])) rfl rfl (hb hby at_169) _ ?_
      rw [len_of Sar135 Nar135]
      show Steps p.tables e below (T124.setTop (mkF m 170 #[.val (.int p1), .val (.int p2), .val (.int p3), .val (.int p4), .val (.ref b1), .unset] [(.int (25 : Int32)), (.int (p2 &&& (2147483647 : Int32))), (.ref b1)])) _
      refine iremM X124 hx rfl (hb hby at_170) rfl (by decide) ?_
      show Steps p.tables e below (T124.setTop (mkF m 171 #[.val (.int p1), .val (.int p2), .val (.int p3), .val (.int p4), .val (.ref b1), .unset] [(.int ((p2 &&& (2147483647 : Int32)) % (25 : Int32))), (.ref b1)])) _
      refine X124.iaload hx (j := ((p2 &&& (2147483647 : Int32)) % (25 : Int32))) (v := (.int ev)) (by rw [e124]; exact Aar136.1) (State.isArrayOf_alike hZ.alike Aar136.2.1) Aar136.2.2 hinar136 hatar136 (g := (mkF m 171 #[.val (.int p1), .val (.int p2), .val (.int p3), .val (.int p4), .val (.ref b1), .unset] [(.int ((p2 &&& (2147483647 : Int32)) % (25 : Int32))), (.ref b1)])) rfl rfl (hb hby at_171) _ ?_
      show Steps p.tables e below (T124.setTop (mkF m 172 #[.val (.int p1), .val (.int p2), .val (.int p3), .val (.int p4), .val (.ref b1), .unset] [(.int ev)])) _
      refine XS.iloadN X124.here hx rfl (hb hby at_172) rfl ?_
      show Steps p.tables e below (T124.setTop (mkF m 173 #[.val (.int p1), .val (.int p2), .val (.int p3), .val (.int p4), .val (.ref b1), .unset] [(.int p3), (.int ev)])) _
      refine XS.bipush X124.here hx rfl (hb hby at_173) ?_
      show Steps p.tables e below (T124.setTop (mkF m 175 #[.val (.int p1), .val (.int p2), .val (.int p3), .val (.int p4), .val (.ref b1), .unset] [(.int (7 : Int32)), (.int p3), (.int ev)])) _
      refine XS.iand X124.here hx rfl (hb hby at_175) rfl ?_
      show Steps p.tables e below (T124.setTop (mkF m 176 #[.val (.int p1), .val (.int p2), .val (.int p3), .val (.int p4), .val (.ref b1), .unset] [(.int (p3 &&& (7 : Int32))), (.int ev)])) _
      refine XS.iconst X124.here hx rfl (hb hby at_176) ?_
      show Steps p.tables e below (T124.setTop (mkF m 177 #[.val (.int p1), .val (.int p2), .val (.int p3), .val (.int p4), .val (.ref b1), .unset] [(.int (3 : Int32)), (.int (p3 &&& (7 : Int32))), (.int ev)])) _
      refine XS.isub X124.here hx rfl (hb hby at_177) rfl ?_
      show Steps p.tables e below (T124.setTop (mkF m 178 #[.val (.int p1), .val (.int p2), .val (.int p3), .val (.int p4), .val (.ref b1), .unset] [(.int ((p3 &&& (7 : Int32)) - (3 : Int32))), (.int ev)])) _
      refine XS.iadd X124.here hx rfl (hb hby at_178) rfl ?_
      show Steps p.tables e below (T124.setTop (mkF m 179 #[.val (.int p1), .val (.int p2), .val (.int p3), .val (.int p4), .val (.ref b1), .unset] [(.int (ev + ((p3 &&& (7 : Int32)) - (3 : Int32))))])) _
      refine XS.istore X124.here hx rfl (hb hby at_179) rfl (l' := #[.val (.int p1), .val (.int p2), .val (.int p3), .val (.int p4), .val (.ref b1), .val (.int (ev + ((p3 &&& (7 : Int32)) - (3 : Int32))))]) rfl ?_
      show Steps p.tables e below (T124.setTop (mkF m 181 #[.val (.int p1), .val (.int p2), .val (.int p3), .val (.int p4), .val (.ref b1), .val (.int (ev + ((p3 &&& (7 : Int32)) - (3 : Int32))))] [])) _
      refine XS.iload X124.here hx rfl (hb hby at_181) rfl ?_
      show Steps p.tables e below (T124.setTop (mkF m 183 #[.val (.int p1), .val (.int p2), .val (.int p3), .val (.int p4), .val (.ref b1), .val (.int (ev + ((p3 &&& (7 : Int32)) - (3 : Int32))))] [(.int (ev + ((p3 &&& (7 : Int32)) - (3 : Int32))))])) _
      refine st137 _ ?_
      show Steps p.tables e below (T137.setTop (mkF m 186 #[.val (.int p1), .val (.int p2), .val (.int p3), .val (.int p4), .val (.ref b1), .val (.int (ev + ((p3 &&& (7 : Int32)) - (3 : Int32))))] [(.int (f1 (ev + ((p3 &&& (7 : Int32)) - (3 : Int32)))))])) _
      refine XS.iload X137.here hx rfl (hb hby at_186) rfl ?_
      show Steps p.tables e below (T137.setTop (mkF m 188 #[.val (.int p1), .val (.int p2), .val (.int p3), .val (.int p4), .val (.ref b1), .val (.int (ev + ((p3 &&& (7 : Int32)) - (3 : Int32))))] [(.int (ev + ((p3 &&& (7 : Int32)) - (3 : Int32)))), (.int (f1 (ev + ((p3 &&& (7 : Int32)) - (3 : Int32)))))])) _
      refine st139 _ ?_
      show Steps p.tables e below (T139.setTop (mkF m 191 #[.val (.int p1), .val (.int p2), .val (.int p3), .val (.int p4), .val (.ref b1), .val (.int (ev + ((p3 &&& (7 : Int32)) - (3 : Int32))))] [(.int (f2 (ev + ((p3 &&& (7 : Int32)) - (3 : Int32))))), (.int (f1 (ev + ((p3 &&& (7 : Int32)) - (3 : Int32)))))])) _
      refine XS.icmpNo X139.here hx rfl (hb hby at_191) rfl (teq hs141).2 ?_
      show Steps p.tables e below (T139.setTop (mkF m 194 #[.val (.int p1), .val (.int p2), .val (.int p3), .val (.int p4), .val (.ref b1), .val (.int (ev + ((p3 &&& (7 : Int32)) - (3 : Int32))))] [])) _
      refine XS.iconst X139.here hx rfl (hb hby at_194) ?_
      show Steps p.tables e below (T139.setTop (mkF m 195 #[.val (.int p1), .val (.int p2), .val (.int p3), .val (.int p4), .val (.ref b1), .val (.int (ev + ((p3 &&& (7 : Int32)) - (3 : Int32))))] [(.int (1 : Int32))])) _
      refine XS.goto X139.here hx rfl (pc0 := 195) (pc' := 199) rfl (hb hby at_195) (by decide) (by decide) ?_
      show Steps p.tables e below (T139.setTop (mkF m 199 #[.val (.int p1), .val (.int p2), .val (.int p3), .val (.int p4), .val (.ref b1), .val (.int (ev + ((p3 &&& (7 : Int32)) - (3 : Int32))))] [(.int (1 : Int32))])) _
      exact retN X139 hx (t := .boolean) Bd.returns (by simp) (hb hby at_199) hr
    · show Q0 Z p1 p2 p3 p4 h0 n0 _ T139.heap _
      rw [e139]
      exact ⟨rfl, N140⟩
set_option maxRecDepth 65536 in
set_option maxHeartbeats 40000000 in
theorem comes_1 {Post : Tables → Env → Array Value → State → Outcome → State → Prop} (hpost : ∀ tb e args s v u, (limb_1_1.after args s (.returned v) u = true ∧ limb_1_2.after args s (.returned v) u = true ∧ True) → FrameEnd s (.returned v) u (Jvm.fieldLocs frame_1_writes args s ++ Jvm.arrayLocs frame_1_arrays args s ++ Jvm.staticLocs frame_1_statics s) 16 128 → Post tb e args s (.returned v) u) :
    ArmFor flags0 classFile x code maxLocals ret World_1 tables_1 room_1 Calls_1 rest_1 Pre_1 Post := by
  intro l hfl _ _ p e ha hc hk s m args below hf hA hF happ hP
  obtain ⟨hcalls, hrest, hpre⟩ := hP
  obtain ⟨-, -, -, hnamed, -, -, -, hat⟩ := (Spec.applies_iff hf).mp happ
  obtain ⟨hg, hn⟩ := and_e (Cond.before_iff.mp (show (Jvm.Cond.and given_1 narrow_1).before args s = true from hpre))
  obtain ⟨gv1, gv2⟩ := and_e hg
  obtain ⟨gv3, gv4⟩ := and_e gv2
  obtain ⟨gv5, gv6⟩ := and_e gv4
  obtain ⟨gv7, gv8⟩ := and_e gv6
  obtain ⟨w0, w1, w2, w3, rfl⟩ : ∃ w0 w1 w2 w3 : Value, args = #[w0, w1, w2, w3] := by
    have hs : args.size = 4 := by simpa [Cond.value, given_1] using gv1
    obtain ⟨L⟩ := args
    match L, hs with
    | [w0, w1, w2, w3], _ => exact ⟨w0, w1, w2, w3, rfl⟩
  have hw := fun d (hd : d ∈ tables_1) => atoms_spec (ws := Jvm.Cond.code x code maxLocals ret :: tables_1) hat d (List.mem_cons_of_mem _ hd)
  obtain ⟨i0, ei0⟩ := is_v gv3
  obtain rfl : w0 = (.int i0) := Option.some.inj ei0
  obtain ⟨i1, ei1⟩ := is_v gv5
  obtain rfl : w1 = (.int i1) := Option.some.inj ei1
  obtain ⟨i2, ei2⟩ := is_v gv7
  obtain rfl : w2 = (.int i2) := Option.some.inj ei2
  obtain ⟨i3, ei3⟩ := is_v gv8
  obtain rfl : w3 = (.int i3) := Option.some.inj ei3
  obtain ⟨n, o, h1, h2, h3, _, L, rfl, ⟨rfl, N⟩, hq⟩ := rm0 l s _ hw tables_1 i0 i1 i2 i3 s.heap s.heap.size (Nat.le_refl _)  p e ha hc hk s m _ below hf ((Spec.applies_iff_loose hf).mp happ).1 ⟨rfl, State.Warmed39.refl s, rfl⟩ trivial
  refine ⟨n, _, h1, h2, h3, hpost _ _ _ _ _ _ ⟨Cond.after_iff.mpr rfl, Cond.after_iff.mpr (eq_i res_at (Term.int_eval (1)) rfl), trivial⟩ ⟨hq.1, hq.2.1, (hq.2.2.sift fun y hy => Or.inr (N y hy)).mono (by decide) (by decide)⟩⟩
theorem main_1_1 : Claimed_1_1 := comes_1 fun _ _ _ _ _ _ h hF => ⟨h.1, hF⟩
theorem main_1_2 : Claimed_1_2 := comes_1 fun _ _ _ _ _ _ h hF => ⟨h.2.1, hF⟩
end Jvm.Pilot.@@N@@
namespace Jvm.Pilot.@@N@@
open Jvm Jvm.ClassFile Sem Op Lib Jvm.Free Jvm.Stand Jvm.Pilot.@@N@@.Jvm.D
/-! MADE BY PROGRAM (witnessworld.py) out of the Statement's table words and the real class files: 9 classes; the members and pool entries that the words name. The judged class is class 1, her method 2. -/
namespace start1
open Jvm.ClassFile
def u (s : String) : CpInfo := .utf8 (stringToUtf16 s)
/-- a pool by its gaps: so many unusable entries, then the entry; so many at the end -/
def gap : Nat → List CpInfo → List CpInfo
  | 0, r => r
  | n + 1, r => .unusable :: gap n r
def poolList (es : List (Nat × CpInfo)) (last : Nat) : List CpInfo := es.foldr (fun e r => gap e.1 (e.2 :: r)) (gap last [])
def pool (es : List (Nat × CpInfo)) (last : Nat) : Array CpInfo := ⟨poolList es last⟩
def fileOf (pool : Array CpInfo) (this : Nat) (attrs : Array Attribute := #[]) (ms : Array MethodInfo := #[]) (fl : Nat := 33) (sup : Nat := 0) (ifs : Array Nat := #[]) (fds : Array FieldInfo := #[]) : ClassFile where
  minorVersion := 0
  majorVersion := 65
  constantPool := pool
  accessFlags := fl
  thisClass := this
  superClass := sup
  interfaces := ifs
  fields := fds
  methods := ms
  attributes := attrs
def plain (name : String) (sup : Option ClassId) : Class where
  name := name
  kind := .ordinary
  loader := none
  accessFlags := 33
  super := sup
  interfaces := #[]
  cf := none
  fields := #[]
  methods := #[]
  instanceTypes := #[]
  staticTypes := #[]
  resolved := #[]
  callSites := []
  init := .initialized
  statics := none
  mirror := none

def pool0 : Array CpInfo := pool [(5, u "<init>"), (0, u "()V"), (1, .class_ 10), (1, u "java/lang/Object")] 113

def k0m0 : Method := { name := "<init>", desc := "()V", sig := { parameters := [], returnType := none }, accessFlags := 1, code := none }
/-- java/lang/Object -/
def k0 : Class := { plain "java/lang/Object" none with
  accessFlags := 33
  interfaces := #[]
  cf := some (fileOf pool0 8 #[] #[{ accessFlags := 1, nameIndex := 5, descriptorIndex := 6, attributes := #[] }] 33 0 #[] #[])
  fields := #[]
  methods := #[k0m0]
  instanceTypes := #[]
  staticTypes := #[]
  resolved := Array.replicate 124 none
  statics := none }

def pool1 : Array CpInfo := pool [(2, .class_ 4), (1, u "java/lang/Object"), (0, u "<init>"), (0, u "()V"), (0, .integer 1114111), (0, .integer 55296), (0, .integer 57343), (0, .integer 65534), (0, .integer 65535), (0, .integer 55295), (0, .integer 56319), (0, .integer 56320), (0, .integer 57344), (0, .integer 65533), (0, .integer 65536), (0, .integer 1114112), (2, .integer 2147483648), (0, .integer 2147483647), (0, .methodref 24 25), (0, .class_ 26), (0, .nameAndType 27 28), (0, u "com/example/strict_allowlist/strictallowlist/cli/Names"), (0, u "isXmlCharacter"), (0, u "(I)Z"), (0, .methodref 30 31), (0, .class_ 32), (0, .nameAndType 33 28), (0, u "com/example/strict_allowlist/strictallowlist/cli/NamesIsXmlCharacterPinLaw"), (0, u "expected"), (3, u "law"), (0, u "(IIII)Z")] 4

def k1m0 : Method := { name := "<init>", desc := "()V", sig := { parameters := [], returnType := none }, accessFlags := 2, code := none }
def k1c1 : Code := { maxStack := 2, maxLocals := 1, code := method_2_code, exceptionTable := #[], attributes := #[] }
def k1m1 : Method := { name := "expected", desc := "(I)Z", sig := { parameters := [.int], returnType := some .boolean }, accessFlags := 10, code := some k1c1 }
def k1c2 : Code := { maxStack := 4, maxLocals := 6, code := code, exceptionTable := #[], attributes := #[] }
def k1m2 : Method := { name := "law", desc := "(IIII)Z", sig := { parameters := [.int, .int, .int, .int], returnType := some .boolean }, accessFlags := 9, code := some k1c2 }
/-- com/example/strict_allowlist/strictallowlist/cli/NamesIsXmlCharacterPinLaw -/
def k1 : Class := { plain "com/example/strict_allowlist/strictallowlist/cli/NamesIsXmlCharacterPinLaw" (some 0) with
  accessFlags := 49
  interfaces := #[]
  cf := some (fileOf pool1 30 #[] #[{ accessFlags := 2, nameIndex := 5, descriptorIndex := 6, attributes := #[] }, { accessFlags := 10, nameIndex := 33, descriptorIndex := 28, attributes := #[] }, { accessFlags := 9, nameIndex := 37, descriptorIndex := 38, attributes := #[] }] 49 2 #[] #[])
  fields := #[]
  methods := #[k1m0, k1m1, k1m2]
  instanceTypes := #[]
  staticTypes := #[]
  resolved := Array.replicate 43 none
  statics := none }

def pool2 : Array CpInfo := pool [(2, .class_ 4), (1, u "java/lang/Object"), (0, u "<init>"), (0, u "()V"), (16, .class_ 25), (1, u "com/example/strict_allowlist/strictallowlist/cli/Names"), (1, u "(I)Z"), (31, u "isXmlCharacter"), (3, .integer 55295), (0, .integer 57344), (0, .integer 65533), (0, .integer 65536), (0, .integer 1114111)] 7

def k2m0 : Method := { name := "<init>", desc := "()V", sig := { parameters := [], returnType := none }, accessFlags := 2, code := none }
def k2c1 : Code := { maxStack := 2, maxLocals := 1, code := prog_49_method_4_code, exceptionTable := #[], attributes := #[] }
def k2m1 : Method := { name := "isXmlCharacter", desc := "(I)Z", sig := { parameters := [.int], returnType := some .boolean }, accessFlags := 8, code := some k2c1 }
/-- com/example/strict_allowlist/strictallowlist/cli/Names -/
def k2 : Class := { plain "com/example/strict_allowlist/strictallowlist/cli/Names" (some 0) with
  accessFlags := 48
  interfaces := #[]
  cf := some (fileOf pool2 23 #[] #[{ accessFlags := 2, nameIndex := 5, descriptorIndex := 6, attributes := #[] }, { accessFlags := 8, nameIndex := 59, descriptorIndex := 27, attributes := #[] }] 48 2 #[] #[])
  fields := #[]
  methods := #[k2m0, k2m1]
  instanceTypes := #[]
  staticTypes := #[]
  resolved := Array.replicate 75 none
  statics := none }

def pool3 : Array CpInfo := pool [(1, u "java/lang/Cloneable"), (0, .class_ 1), (0, u "java/lang/Object"), (0, .class_ 3)] 3

/-- java/lang/Cloneable -/
def k3 : Class := { plain "java/lang/Cloneable" (some 0) with
  accessFlags := 1537
  interfaces := #[]
  cf := some (fileOf pool3 2 #[] #[] 1537 4 #[] #[])
  fields := #[]
  methods := #[]
  instanceTypes := #[]
  staticTypes := #[]
  resolved := Array.replicate 8 none
  statics := none }

def pool4 : Array CpInfo := pool [(1, u "java/io/Serializable"), (0, .class_ 1), (0, u "java/lang/Object"), (0, .class_ 3)] 3

/-- java/io/Serializable -/
def k4 : Class := { plain "java/io/Serializable" (some 0) with
  accessFlags := 1537
  interfaces := #[]
  cf := some (fileOf pool4 2 #[] #[] 1537 4 #[] #[])
  fields := #[]
  methods := #[]
  instanceTypes := #[]
  staticTypes := #[]
  resolved := Array.replicate 8 none
  statics := none }

/-- the primitive byte -/
def k5 : Class := { plain "byte" none with kind := .primitive 'B', accessFlags := 0x411 }
/-- [B -/
def k6 : Class := { plain "[B" (some 0) with kind := .array 5 .byte, interfaces := #[3, 4], accessFlags := 1041 }

/-- the primitive int -/
def k7 : Class := { plain "int" none with kind := .primitive 'I', accessFlags := 0x411 }
/-- [I -/
def k8 : Class := { plain "[I" (some 0) with kind := .array 7 .int, interfaces := #[3, 4], accessFlags := 1041 }

def heap : Heap := #[]
def classes : Array Class := #[k0, k1, k2, k3, k4, k5, k6, k7, k8]
def interned : List (Array UInt16 × Addr) := []
def slotsUsed : Nat := 0
def theMethod : MethodId := ⟨1, 2⟩
def args0 : Array Value := #[.int 65, .int 3, .int 2, .int 1]
def aboutOver (below : List Frame) : State where
  vm := { classes := classes, interned := interned.toArray }
  heap := heap
  slotsUsed := slotsUsed
  threads := #[{ frames := .invoking theMethod args0 :: below }]
def below0 : List Frame := [.native { method := ⟨0, 0⟩, args := #[] }]
def about1 : State := aboutOver below0
def p0 : Program := .bare "" "" ""
def e0 : Env := launch0.env 0 0 0
theorem w_frames : about1.frames = Frame.invoking theMethod args0 :: below0 := rfl
set_option maxRecDepth 65536 in
theorem w_args : argsFit about1.vm theMethod args0 = true := by decide +kernel
set_option maxRecDepth 65536 in
theorem w_heap : heapFits about1 = true := by decide +kernel
set_option maxRecDepth 65536 in
theorem w_runnable : about1.curStatus? = some .runnable := by decide +kernel
set_option maxRecDepth 65536 in
theorem w_alone : about1.alone = true := by decide +kernel
set_option maxRecDepth 65536 in
theorem w_named : about1.methodNamed? x = some theMethod := by decide +kernel
set_option maxRecDepth 65536 in
theorem w_hears : about1.hears theMethod below0 = true := by decide +kernel
set_option maxRecDepth 65536 in
theorem w_ripe : about1.ripe theMethod args0 below0 = true := by decide +kernel
theorem w_running : about1.status = .running := rfl
set_option maxRecDepth 65536 in
theorem w_room : about1.hasRoom e0.platform room_1 = true :=
  launch0.hasRoom_least _ room_1 (by decide +kernel) (by decide +kernel) (by decide +kernel) (by decide +kernel) (by decide +kernel) (by decide +kernel)
theorem allAtoms_all (ts : List Jvm.Cond) (a : Array Jvm.Value) (st : Jvm.State) : (allAtoms ts).before a st = ts.all (fun c => c.before a st) := by
  induction ts with
  | nil => rfl
  | cons c t ih =>
    show (Jvm.Cond.and c (allAtoms t)).before a st = _
    rw [Jvm.Cond.before_and, ih, List.all_cons]
def words1 : List Jvm.Cond := Jvm.Cond.code x code maxLocals ret :: tables_1
/-- a 'code' word, met by the world's own term for the bytes: nothing is compared byte by byte -/
theorem code_word {y : MethodName} {bytes : ByteArray} {mx : Nat} {rt : Option FieldType} {a : Array Value} {s : State} {m : MethodId} {meth : Method} {c : Code} (h1 : s.methodNamed? y = some m) (h2 : s.vm.method? m = some meth) (h3 : meth.code = some c) (h4 : c.code = bytes)
    (h5 : (c.maxLocals == mx && c.exceptionTable.isEmpty && decide (c.maxStack ≤ mostOperands) && decide (meth.sig.returnType = rt) && !meth.locks && decide (parseMethodDescriptor y.desc = some meth.sig)) = true) : (Jvm.Cond.code y bytes mx rt).before a s = true := by
  simp only [Bool.and_eq_true, beq_iff_eq, Bool.not_eq_true', decide_eq_true_eq] at h5
  obtain ⟨⟨⟨⟨⟨g1, g2⟩, g3⟩, g4⟩, g5⟩, g6⟩ := h5
  simp [Cond.before, Cond.holds, Cond.value, h1, h2, h3, h4, g1, g2, g3, g4, g5, g6]
def isCode : Jvm.Cond → Bool
  | .code _ _ _ _ => true
  | _ => false
theorem all_split {L : List Jvm.Cond} {P : Jvm.Cond → Bool} (h1 : L.all (fun c => isCode c || P c) = true) (h2 : ∀ c ∈ L.filter isCode, P c = true) : L.all P = true := by
  refine List.all_eq_true.mpr fun c hc => ?_
  have h := List.all_eq_true.mp h1 c hc
  rcases Bool.eq_false_or_eq_true (isCode c) with hi | hi
  · exact h2 c (List.mem_filter.mpr ⟨hc, hi⟩)
  · simpa [hi] using h
set_option maxRecDepth 65536 in
theorem w_c0 : (Jvm.Cond.code x code maxLocals ret).before args0 about1 = true := code_word (m := ⟨1, 2⟩) (meth := k1m2) (c := k1c2) (by decide +kernel) rfl rfl rfl (by decide +kernel)
set_option maxRecDepth 65536 in
theorem w_c1 : (Jvm.Cond.code ({ cls := "com/example/strict_allowlist/strictallowlist/cli/Names", name := "isXmlCharacter", desc := "(I)Z" } : Jvm.MethodName) prog_49_method_4_code (1 : Nat) (Option.some Jvm.ClassFile.FieldType.boolean)).before args0 about1 = true := code_word (m := ⟨2, 1⟩) (meth := k2m1) (c := k2c1) (by decide +kernel) rfl rfl rfl (by decide +kernel)
set_option maxRecDepth 65536 in
theorem w_c2 : (Jvm.Cond.code ({ cls := "com/example/strict_allowlist/strictallowlist/cli/NamesIsXmlCharacterPinLaw", name := "expected", desc := "(I)Z" } : Jvm.MethodName) method_2_code (1 : Nat) (Option.some Jvm.ClassFile.FieldType.boolean)).before args0 about1 = true := code_word (m := ⟨1, 1⟩) (meth := k1m1) (c := k1c1) (by decide +kernel) rfl rfl rfl (by decide +kernel)
def codes1 : List Jvm.Cond := [Jvm.Cond.code x code maxLocals ret, Jvm.Cond.code ({ cls := "com/example/strict_allowlist/strictallowlist/cli/Names", name := "isXmlCharacter", desc := "(I)Z" } : Jvm.MethodName) prog_49_method_4_code (1 : Nat) (Option.some Jvm.ClassFile.FieldType.boolean), Jvm.Cond.code ({ cls := "com/example/strict_allowlist/strictallowlist/cli/NamesIsXmlCharacterPinLaw", name := "expected", desc := "(I)Z" } : Jvm.MethodName) method_2_code (1 : Nat) (Option.some Jvm.ClassFile.FieldType.boolean)]
set_option maxRecDepth 65536 in
theorem codes_eq : words1.filter isCode = codes1 := rfl
theorem w_codes : ∀ c ∈ words1.filter isCode, c.before args0 about1 = true := by
  rw [codes_eq]
  intro c hc
  simp only [codes1, List.mem_cons, List.not_mem_nil, or_false] at hc
  rcases hc with rfl | rfl | rfl
  · exact w_c0
  · exact w_c1
  · exact w_c2
set_option maxRecDepth 65536 in
theorem w_t1 : (words1.take 24).all (fun c => isCode c || c.before args0 about1) = true := by decide +kernel
set_option maxRecDepth 65536 in
theorem w_t2 : (words1.drop 24).all (fun c => isCode c || c.before args0 about1) = true := by decide +kernel
theorem w_tables : (allAtoms (Jvm.Cond.code x code maxLocals ret :: tables_1)).before args0 about1 = true := by
  rw [allAtoms_all]
  show words1.all (fun c => c.before args0 about1) = true
  refine all_split ?_ w_codes
  rw [← List.take_append_drop 24 words1, List.all_append, w_t1, w_t2]
  rfl
set_option maxRecDepth 65536 in
theorem w_case : (Jvm.Cond.and given_1 narrow_1).before args0 about1 = true := by decide +kernel
theorem w_applies : (headSpec (Jvm.Cond.code x code maxLocals ret :: tables_1) room_1).applies x e0.platform about1 = true :=
  (Spec.applies_iff w_frames).mpr ⟨w_running, w_runnable, w_alone, w_named, w_hears, w_ripe, w_room, w_tables⟩
theorem atStart : AtStart classFile x code maxLocals ret World_1 tables_1 room_1 Calls_1 rest_1 Pre_1 launch0 p0 e0 about1 theMethod args0 below0 :=
  ⟨lists_1, trivial, launch0.admits_env _ _ _, launch0.least_env, fairChoices_fair.cas, fairChoices_fair.clock, w_frames, w_args, w_heap, w_applies, trivial, trivial, w_case⟩
end start1
theorem witness_1 : WitnessClaimed_1 := ⟨start1.p0, start1.e0, start1.about1, start1.theMethod, start1.args0, start1.below0, start1.atStart⟩
end Jvm.Pilot.@@N@@
