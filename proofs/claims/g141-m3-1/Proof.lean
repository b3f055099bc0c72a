import JvmDerived
import JvmDerived.Pilot.@@N@@Statement
import JvmDerived.Pilot.@@N@@Code
set_option linter.unusedVariables false
set_option linter.unusedSimpArgs false
namespace Jvm.RoadKit
open Sem ClassFile Op Lib Jvm.Stand Jvm.Free Jvm.LawKit
section New
variable {p : Program} {l : Launch} {e : Env} {R : Room} {s : State} {m : MethodId} {args : Array Value} {below : List Frame} {meth : Method} {c : Code} {T : State} {locs : List Loc} {cells slots : Nat}
theorem retI (X : Stand p l e R s m args below meth c T locs cells slots) (hx : p.tables.exec = Jvm.exec) {pc : Nat} {Ls : Array Slot} {z : Int32} {rest : List Value} (hret : meth.sig.returnType = some .int) (hd : decode c.code pc = .ok (.ireturn, 1)) {fs : List Frame}
    (hl : ∀ (f : JFrame) (acts : List Action), f.method = m → f.locked = none → f.entered = [] → (doReturn e (T.setTop f) acts (some (.int z))).1 = T.setFrames fs) : Steps p.tables e below (T.setTop (mkF m pc Ls (.int z :: rest))) (T.setFrames fs) :=
  retOut X hx hret rfl (Or.inl ⟨rfl, Or.inl rfl, _, rfl⟩) hd hl
end New
end Jvm.RoadKit
namespace Jvm.Pilot.@@N@@
open Jvm Jvm.ClassFile Sem Op Lib Jvm.Free Jvm.Stand Jvm.LawKit Jvm.RoadKit Bundle Jvm.Pilot.@@N@@.Jvm.D
theorem own_feq {args : Array Value} {s : State} {t : Term} {C n d : String} {k : Int32} {x : Addr} (ev : t.eval args s none [] s = some (.ref x)) (h : (Jvm.Cond.eq (.field t C n d) (.int k)).value args s none s [] = some true) : Fld s s.heap x C n d (.int k) := by
  apply Fld.start
  have e := fld_at (C := C) (n := n) (dd := d) ev
  simp only [Cond.value, e] at h
  cases hq : s.fieldOf? x C n d with
  | none => simp [hq] at h
  | some v => cases v <;> simp [hq, Term.eval] at h ⊢; exact h
theorem own_seq {args : Array Value} {s : State} {t : Term} {k : Int32} (h : (Jvm.Cond.eq t (.int k)).value args s none s [] = some true) : t.eval args s none [] s = some (.int k) := by
  simp only [Cond.value] at h
  cases hq : t.eval args s none [] s with
  | none => simp [hq] at h
  | some v => cases v <;> simp [hq, Term.eval] at h ⊢; exact h
theorem pn_0 : plainName "com/example/indenture/indenture/status/ContractStatusCanMoveToPinLaw" = true := by first | (simp [plainName, overriddenIn]; done) | decide +kernel
theorem d1_0 : decode method_2_code 0 = .ok (.iload_n 0, 1) := by decide +kernel
theorem d1_1 : decode method_2_code 1 = .ok (.ifCond .ne 7, 3) := by decide +kernel
theorem d1_4 : decode method_2_code 4 = .ok (.getstatic 7, 3) := by decide +kernel
theorem d1_7 : decode method_2_code 7 = .ok (.areturn, 1) := by decide +kernel
theorem ef_1a (m : MethodId) (x0 : Int32) : entryFrame m #[(.int x0)] 1 = mkF m 0 #[.val (.int x0)] [] := by first | (simp [entryFrame, mkF, argsToLocals, Value.category]; done) | rfl
def Q1a (Z : State) (p1 : Int32) (wP : Addr) (h0 : Heap) (n0 : Nat) (v : Option Value) (h : Heap) (L : List Loc) : Prop := v = some (.ref wP) ∧ Fr n0 L ∧ h = h0
set_option maxRecDepth 65536 in
set_option maxHeartbeats 40000000 in
theorem rm1a (l : Launch) (Z : State) (a0 : Array Value) (hw : ∀ d ∈ tables_1, d.before a0 Z = true) (ws : List Jvm.Cond) (p1 : Int32) (wP : Addr) (h0 : Heap) (n0 : Nat) (Z0 : n0 ≤ h0.size) (S_PENDING : Sta Z h0 "com/example/indenture/indenture/status/ContractStatus" "PENDING" "Lcom/example/indenture/indenture/status/ContractStatus;" (.ref wP)) (h1 : p1 = (0 : Int32)) :
    MetFree l (⟨"com/example/indenture/indenture/status/ContractStatusCanMoveToPinLaw", "pick", "(I)Lcom/example/indenture/indenture/status/ContractStatus;"⟩ : MethodName) (head1 (Jvm.Cond.code (⟨"com/example/indenture/indenture/status/ContractStatusCanMoveToPinLaw", "pick", "(I)Lcom/example/indenture/indenture/status/ContractStatus;"⟩ : MethodName) method_2_code 1 (some (.object "com/example/indenture/indenture/status/ContractStatus")) :: ws) ({ frames := 0, cells := 0, slots := 0, locals := 0 } : Room)) (fun a U => a = #[(.int p1)] ∧ Z.Warmed39 U.vm ∧ U.heap = h0) (fun _ _ _ _ _ => True) (fun _ U o U' => ∃ v L, o = .returned v ∧ Q1a Z p1 wP h0 n0 v U'.heap L ∧ FrameEnd U o U' L ({ frames := 0, cells := 0, slots := 0, locals := 0 } : Room).cells ({ frames := 0, cells := 0, slots := 0, locals := 0 } : Room).slots) := by
  refine MetFree.of_bodySF (plainFor_of_name pn_0) hisR ?_
  intro p e s m args below meth c s₁ Bd hml0 hP hK
  obtain ⟨rfl, hZ, hh⟩ := hP
  have hx := Bd.exec
  have hby := Bd.bytes
  have hml : c.maxLocals = 1 := hml0
  have hown : s.vm.findClass "com/example/indenture/indenture/status/ContractStatusCanMoveToPinLaw" = some m.cls := findClass_of_methodNamed Bd.named
  have hnm := (name_of_methodNamed Bd.named Bd.method).1
  have X0 : Stand p l e ({ frames := 0, cells := 0, slots := 0, locals := 0 } : Room) s m #[(.int p1)] below meth c s₁ [] 0 0 := Stand.of_body Bd
  have e0 : s₁.heap = h0 := by rw [← hh, Bd.state]; rfl
  have N0 := Fr.nil n0
  have pre0 : ∀ t, Steps p.tables e below (s₁.setTop (mkF m 0 #[.val (.int p1)] [])) t → Steps p.tables e below (s₁.setTop (entryFrame m #[(.int p1)] 1)) t := fun t k => castTop (ef_1a m p1) k
  obtain ⟨T1, X1, e1, st1⟩ := getS2 X0 hx hZ hown (host := "") (Or.inl (hw _ (List.mem_of_getElem? (i := 4) rfl))) Via.refl e0 S_PENDING (g := (mkF m 4 #[.val (.int p1)] [])) rfl (hb hby d1_4)
  obtain ⟨fs, hr, hrun, hended, hW, hsame⟩ := X1.leave (v := some (.ref wP)) (fun h => by rw [Bd.returns] at h; cases h)
  refine ⟨_, _, pre0 _ ?_, hrun, hended, _, _, rfl, ?_, ⟨_, rfl⟩, hW, hsame.mono (by decide) (by decide)⟩
  · show Steps p.tables e below (s₁.setTop (mkF m 0 #[.val (.int p1)] [])) _
    refine XS.iloadN X0.here hx rfl (hb hby d1_0) rfl ?_
    show Steps p.tables e below (s₁.setTop (mkF m 1 #[.val (.int p1)] [(.int p1)])) _
    refine XS.ifNo X0.here hx rfl (hb hby d1_1) rfl ((if0 _ _).trans (teq h1).2) ?_
    show Steps p.tables e below (s₁.setTop (mkF m 4 #[.val (.int p1)] [])) _
    refine st1 _ ?_
    show Steps p.tables e below (T1.setTop (mkF m 7 #[.val (.int p1)] [(.ref wP)])) _
    exact retOut X1 hx (t := (.object "com/example/indenture/indenture/status/ContractStatus")) Bd.returns rfl (Or.inr (Or.inr (Or.inr (Or.inr ⟨rfl, rfl, rfl⟩)))) (hb hby d1_7) hr
  · show Q1a Z p1 wP h0 n0 _ T1.heap _
    rw [e1]
    exact ⟨rfl, N0, rfl⟩
theorem d1_8 : decode method_2_code 8 = .ok (.getstatic 13, 3) := by decide +kernel
theorem d1_11 : decode method_2_code 11 = .ok (.areturn, 1) := by decide +kernel
theorem ef_1b (m : MethodId) (x0 : Int32) : entryFrame m #[(.int x0)] 1 = mkF m 0 #[.val (.int x0)] [] := by first | (simp [entryFrame, mkF, argsToLocals, Value.category]; done) | rfl
def Q1b (Z : State) (p1 : Int32) (wA : Addr) (h0 : Heap) (n0 : Nat) (v : Option Value) (h : Heap) (L : List Loc) : Prop := v = some (.ref wA) ∧ Fr n0 L ∧ h = h0
set_option maxRecDepth 65536 in
set_option maxHeartbeats 40000000 in
theorem rm1b (l : Launch) (Z : State) (a0 : Array Value) (hw : ∀ d ∈ tables_1, d.before a0 Z = true) (ws : List Jvm.Cond) (p1 : Int32) (wA : Addr) (h0 : Heap) (n0 : Nat) (Z0 : n0 ≤ h0.size) (S_ACTIVE : Sta Z h0 "com/example/indenture/indenture/status/ContractStatus" "ACTIVE" "Lcom/example/indenture/indenture/status/ContractStatus;" (.ref wA)) (h1 : ¬ (p1 = (0 : Int32))) :
    MetFree l (⟨"com/example/indenture/indenture/status/ContractStatusCanMoveToPinLaw", "pick", "(I)Lcom/example/indenture/indenture/status/ContractStatus;"⟩ : MethodName) (head1 (Jvm.Cond.code (⟨"com/example/indenture/indenture/status/ContractStatusCanMoveToPinLaw", "pick", "(I)Lcom/example/indenture/indenture/status/ContractStatus;"⟩ : MethodName) method_2_code 1 (some (.object "com/example/indenture/indenture/status/ContractStatus")) :: ws) ({ frames := 0, cells := 0, slots := 0, locals := 0 } : Room)) (fun a U => a = #[(.int p1)] ∧ Z.Warmed39 U.vm ∧ U.heap = h0) (fun _ _ _ _ _ => True) (fun _ U o U' => ∃ v L, o = .returned v ∧ Q1b Z p1 wA h0 n0 v U'.heap L ∧ FrameEnd U o U' L ({ frames := 0, cells := 0, slots := 0, locals := 0 } : Room).cells ({ frames := 0, cells := 0, slots := 0, locals := 0 } : Room).slots) := by
  refine MetFree.of_bodySF (plainFor_of_name pn_0) hisR ?_
  intro p e s m args below meth c s₁ Bd hml0 hP hK
  obtain ⟨rfl, hZ, hh⟩ := hP
  have hx := Bd.exec
  have hby := Bd.bytes
  have hml : c.maxLocals = 1 := hml0
  have hown : s.vm.findClass "com/example/indenture/indenture/status/ContractStatusCanMoveToPinLaw" = some m.cls := findClass_of_methodNamed Bd.named
  have hnm := (name_of_methodNamed Bd.named Bd.method).1
  have X0 : Stand p l e ({ frames := 0, cells := 0, slots := 0, locals := 0 } : Room) s m #[(.int p1)] below meth c s₁ [] 0 0 := Stand.of_body Bd
  have e0 : s₁.heap = h0 := by rw [← hh, Bd.state]; rfl
  have N0 := Fr.nil n0
  have pre0 : ∀ t, Steps p.tables e below (s₁.setTop (mkF m 0 #[.val (.int p1)] [])) t → Steps p.tables e below (s₁.setTop (entryFrame m #[(.int p1)] 1)) t := fun t k => castTop (ef_1b m p1) k
  obtain ⟨T1, X1, e1, st1⟩ := getS2 X0 hx hZ hown (host := "") (Or.inl (hw _ (List.mem_of_getElem? (i := 7) rfl))) Via.refl e0 S_ACTIVE (g := (mkF m 8 #[.val (.int p1)] [])) rfl (hb hby d1_8)
  obtain ⟨fs, hr, hrun, hended, hW, hsame⟩ := X1.leave (v := some (.ref wA)) (fun h => by rw [Bd.returns] at h; cases h)
  refine ⟨_, _, pre0 _ ?_, hrun, hended, _, _, rfl, ?_, ⟨_, rfl⟩, hW, hsame.mono (by decide) (by decide)⟩
  · show Steps p.tables e below (s₁.setTop (mkF m 0 #[.val (.int p1)] [])) _
    refine XS.iloadN X0.here hx rfl (hb hby d1_0) rfl ?_
    show Steps p.tables e below (s₁.setTop (mkF m 1 #[.val (.int p1)] [(.int p1)])) _
    refine XS.ifYes X0.here hx rfl (pc0 := 1) (pc' := 8) rfl (hb hby d1_1) rfl ((if0 _ _).trans (feq h1).2) (by decide) (by decide) ?_
    show Steps p.tables e below (s₁.setTop (mkF m 8 #[.val (.int p1)] [])) _
    refine st1 _ ?_
    show Steps p.tables e below (T1.setTop (mkF m 11 #[.val (.int p1)] [(.ref wA)])) _
    exact retOut X1 hx (t := (.object "com/example/indenture/indenture/status/ContractStatus")) Bd.returns rfl (Or.inr (Or.inr (Or.inr (Or.inr ⟨rfl, rfl, rfl⟩)))) (hb hby d1_11) hr
  · show Q1b Z p1 wA h0 n0 _ T1.heap _
    rw [e1]
    exact ⟨rfl, N0, rfl⟩
theorem pn_7 : plainName "com/example/indenture/indenture/status/ContractStatus" = true := by first | (simp [plainName, overriddenIn]; done) | decide +kernel
theorem d2_0 : decode prog_115_method_4_code 0 = .ok (.aload_n 0, 1) := by decide +kernel
theorem d2_1 : decode prog_115_method_4_code 1 = .ok (.getstatic 3, 3) := by decide +kernel
theorem d2_4 : decode prog_115_method_4_code 4 = .ok (.if_acmp .ne 14, 3) := by decide +kernel
theorem d2_7 : decode prog_115_method_4_code 7 = .ok (.aload_n 1, 1) := by decide +kernel
theorem d2_8 : decode prog_115_method_4_code 8 = .ok (.getstatic 7, 3) := by decide +kernel
theorem d2_11 : decode prog_115_method_4_code 11 = .ok (.if_acmp .ne 7, 3) := by decide +kernel
theorem d2_14 : decode prog_115_method_4_code 14 = .ok (.iconst 1, 1) := by decide +kernel
theorem d2_15 : decode prog_115_method_4_code 15 = .ok (.goto 4, 3) := by decide +kernel
theorem d2_19 : decode prog_115_method_4_code 19 = .ok (.ireturn, 1) := by decide +kernel
theorem d2_18 : decode prog_115_method_4_code 18 = .ok (.iconst 0, 1) := by decide +kernel
theorem ef_2 (m : MethodId) (x0 : Addr) (x1 : Addr) : entryFrame m #[(.ref x0), (.ref x1)] 2 = mkF m 0 #[.val (.ref x0), .val (.ref x1)] [] := by first | (simp [entryFrame, mkF, argsToLocals, Value.category]; done) | rfl
def f2 (a1 : Addr) (a2 : Addr) (wP : Addr) (wA : Addr) : Int32 := if a1 = wP then (if a2 = wA then (1 : Int32) else (0 : Int32)) else (0 : Int32)
def Q2 (Z : State) (a1 : Addr) (a2 : Addr) (wP : Addr) (wA : Addr) (h0 : Heap) (n0 : Nat) (v : Option Value) (h : Heap) (L : List Loc) : Prop := v = some (.int (f2 a1 a2 wP wA)) ∧ Fr n0 L ∧ h = h0
set_option maxRecDepth 65536 in
set_option maxHeartbeats 40000000 in
theorem rm2 (l : Launch) (Z : State) (a0 : Array Value) (hw : ∀ d ∈ tables_1, d.before a0 Z = true) (ws : List Jvm.Cond) (a1 : Addr) (a2 : Addr) (wP : Addr) (wA : Addr) (h0 : Heap) (n0 : Nat) (Z0 : n0 ≤ h0.size) (S_PENDING : Sta Z h0 "com/example/indenture/indenture/status/ContractStatus" "PENDING" "Lcom/example/indenture/indenture/status/ContractStatus;" (.ref wP)) (S_ACTIVE : Sta Z h0 "com/example/indenture/indenture/status/ContractStatus" "ACTIVE" "Lcom/example/indenture/indenture/status/ContractStatus;" (.ref wA)) :
    MetFree l (⟨"com/example/indenture/indenture/status/ContractStatus", "canMoveTo", "(Lcom/example/indenture/indenture/status/ContractStatus;)Z"⟩ : MethodName) (head1 (Jvm.Cond.code (⟨"com/example/indenture/indenture/status/ContractStatus", "canMoveTo", "(Lcom/example/indenture/indenture/status/ContractStatus;)Z"⟩ : MethodName) prog_115_method_4_code 2 (some .boolean) :: ws) ({ frames := 0, cells := 0, slots := 0, locals := 0 } : Room)) (fun a U => a = #[(.ref a1), (.ref a2)] ∧ Z.Warmed39 U.vm ∧ U.heap = h0) (fun _ _ _ _ _ => True) (fun _ U o U' => ∃ v L, o = .returned v ∧ Q2 Z a1 a2 wP wA h0 n0 v U'.heap L ∧ FrameEnd U o U' L ({ frames := 0, cells := 0, slots := 0, locals := 0 } : Room).cells ({ frames := 0, cells := 0, slots := 0, locals := 0 } : Room).slots) := by
  refine MetFree.of_bodySF (plainFor_of_name pn_7) hisR ?_
  intro p e s m args below meth c s₁ Bd hml0 hP hK
  obtain ⟨rfl, hZ, hh⟩ := hP
  have hx := Bd.exec
  have hby := Bd.bytes
  have hml : c.maxLocals = 2 := hml0
  have hown : s.vm.findClass "com/example/indenture/indenture/status/ContractStatus" = some m.cls := findClass_of_methodNamed Bd.named
  have hnm := (name_of_methodNamed Bd.named Bd.method).1
  have X0 : Stand p l e ({ frames := 0, cells := 0, slots := 0, locals := 0 } : Room) s m #[(.ref a1), (.ref a2)] below meth c s₁ [] 0 0 := Stand.of_body Bd
  have e0 : s₁.heap = h0 := by rw [← hh, Bd.state]; rfl
  have N0 := Fr.nil n0
  have pre0 : ∀ t, Steps p.tables e below (s₁.setTop (mkF m 0 #[.val (.ref a1), .val (.ref a2)] [])) t → Steps p.tables e below (s₁.setTop (entryFrame m #[(.ref a1), (.ref a2)] 2)) t := fun t k => castTop (ef_2 m a1 a2) k
  obtain ⟨T1, X1, e1, st1⟩ := getS2 X0 hx hZ hown (host := "") (Or.inl (hw _ (List.mem_of_getElem? (i := 14) rfl))) Via.refl e0 S_PENDING (g := (mkF m 1 #[.val (.ref a1), .val (.ref a2)] [(.ref a1)])) rfl (hb hby d2_1)
  have pre2 : ∀ t, Steps p.tables e below (T1.setTop (mkF m 4 #[.val (.ref a1), .val (.ref a2)] [(.ref wP), (.ref a1)])) t → Steps p.tables e below (s₁.setTop (entryFrame m #[(.ref a1), (.ref a2)] 2)) t := fun t k => pre0 t (by
    show Steps p.tables e below (s₁.setTop (mkF m 0 #[.val (.ref a1), .val (.ref a2)] [])) _
    refine XS.aloadN X0.here hx rfl (hb hby d2_0) rfl rfl ?_
    show Steps p.tables e below (s₁.setTop (mkF m 1 #[.val (.ref a1), .val (.ref a2)] [(.ref a1)])) _
    refine st1 _ ?_
    exact k)
  by_cases hc3 : a1 = wP
  ·  -- pc 4: a1 = wP
    obtain ⟨T4, X4, e4, st4⟩ := getS2 X1 hx hZ hown (host := "") (Or.inl (hw _ (List.mem_of_getElem? (i := 15) rfl))) Via.refl e1 S_ACTIVE (g := (mkF m 8 #[.val (.ref a1), .val (.ref a2)] [(.ref a2)])) rfl (hb hby d2_8)
    have pre5 : ∀ t, Steps p.tables e below (T4.setTop (mkF m 11 #[.val (.ref a1), .val (.ref a2)] [(.ref wA), (.ref a2)])) t → Steps p.tables e below (s₁.setTop (entryFrame m #[(.ref a1), (.ref a2)] 2)) t := fun t k => pre2 t (by
      show Steps p.tables e below (T1.setTop (mkF m 4 #[.val (.ref a1), .val (.ref a2)] [(.ref wP), (.ref a1)])) _
      refine Jvm.RoadKit.acmp (g := (mkF m 4 #[.val (.ref a1), .val (.ref a2)] [(.ref wP), (.ref a1)])) X1 hx rfl rfl rfl (pc0 := 4) (pc' := 7) (same := true) rfl (hb hby d2_4) rfl (decide_eq_true (congrArg Value.ref hc3)) (by decide) (by decide) ?_
      show Steps p.tables e below (T1.setTop (mkF m 7 #[.val (.ref a1), .val (.ref a2)] [])) _
      refine XS.aloadN X1.here hx rfl (hb hby d2_7) rfl rfl ?_
      show Steps p.tables e below (T1.setTop (mkF m 8 #[.val (.ref a1), .val (.ref a2)] [(.ref a2)])) _
      refine st4 _ ?_
      exact k)
    by_cases hc6 : a2 = wA
    ·  -- pc 11: a2 = wA
      obtain ⟨fs, hr, hrun, hended, hW, hsame⟩ := X4.leave (v := some (.int (1 : Int32))) (fun h => by rw [Bd.returns] at h; cases h)
      refine ⟨_, _, pre5 _ ?_, hrun, hended, _, _, rfl, ?_, ⟨_, rfl⟩, hW, hsame.mono (by decide) (by decide)⟩
      · show Steps p.tables e below (T4.setTop (mkF m 11 #[.val (.ref a1), .val (.ref a2)] [(.ref wA), (.ref a2)])) _
        refine Jvm.RoadKit.acmp (g := (mkF m 11 #[.val (.ref a1), .val (.ref a2)] [(.ref wA), (.ref a2)])) X4 hx rfl rfl rfl (pc0 := 11) (pc' := 14) (same := true) rfl (hb hby d2_11) rfl (decide_eq_true (congrArg Value.ref hc6)) (by decide) (by decide) ?_
        show Steps p.tables e below (T4.setTop (mkF m 14 #[.val (.ref a1), .val (.ref a2)] [])) _
        refine XS.iconst X4.here hx rfl (hb hby d2_14) ?_
        show Steps p.tables e below (T4.setTop (mkF m 15 #[.val (.ref a1), .val (.ref a2)] [(.int (1 : Int32))])) _
        refine XS.goto X4.here hx rfl (pc0 := 15) (pc' := 19) rfl (hb hby d2_15) (by decide) (by decide) ?_
        show Steps p.tables e below (T4.setTop (mkF m 19 #[.val (.ref a1), .val (.ref a2)] [(.int (1 : Int32))])) _
        exact retN X4 hx (t := .boolean) Bd.returns (by simp) (hb hby d2_19) hr
      · show Q2 Z a1 a2 wP wA h0 n0 _ T4.heap _
        rw [e4]
        exact ⟨(by unfold f2; rw [if_pos hc3, if_pos hc6]), N0, rfl⟩
    ·  -- pc 11: not a2 = wA
      obtain ⟨fs, hr, hrun, hended, hW, hsame⟩ := X4.leave (v := some (.int (0 : Int32))) (fun h => by rw [Bd.returns] at h; cases h)
      refine ⟨_, _, pre5 _ ?_, hrun, hended, _, _, rfl, ?_, ⟨_, rfl⟩, hW, hsame.mono (by decide) (by decide)⟩
      · show Steps p.tables e below (T4.setTop (mkF m 11 #[.val (.ref a1), .val (.ref a2)] [(.ref wA), (.ref a2)])) _
        refine Jvm.RoadKit.acmp (g := (mkF m 11 #[.val (.ref a1), .val (.ref a2)] [(.ref wA), (.ref a2)])) X4 hx rfl rfl rfl (pc0 := 11) (pc' := 18) (same := false) rfl (hb hby d2_11) rfl (decide_eq_false fun q => hc6 (Value.ref.inj q)) (by decide) (by decide) ?_
        show Steps p.tables e below (T4.setTop (mkF m 18 #[.val (.ref a1), .val (.ref a2)] [])) _
        refine XS.iconst X4.here hx rfl (hb hby d2_18) ?_
        show Steps p.tables e below (T4.setTop (mkF m 19 #[.val (.ref a1), .val (.ref a2)] [(.int (0 : Int32))])) _
        exact retN X4 hx (t := .boolean) Bd.returns (by simp) (hb hby d2_19) hr
      · show Q2 Z a1 a2 wP wA h0 n0 _ T4.heap _
        rw [e4]
        exact ⟨(by unfold f2; rw [if_pos hc3, if_neg hc6]), N0, rfl⟩
  ·  -- pc 4: not a1 = wP
    obtain ⟨fs, hr, hrun, hended, hW, hsame⟩ := X1.leave (v := some (.int (0 : Int32))) (fun h => by rw [Bd.returns] at h; cases h)
    refine ⟨_, _, pre2 _ ?_, hrun, hended, _, _, rfl, ?_, ⟨_, rfl⟩, hW, hsame.mono (by decide) (by decide)⟩
    · show Steps p.tables e below (T1.setTop (mkF m 4 #[.val (.ref a1), .val (.ref a2)] [(.ref wP), (.ref a1)])) _
      refine Jvm.RoadKit.acmp (g := (mkF m 4 #[.val (.ref a1), .val (.ref a2)] [(.ref wP), (.ref a1)])) X1 hx rfl rfl rfl (pc0 := 4) (pc' := 18) (same := false) rfl (hb hby d2_4) rfl (decide_eq_false fun q => hc3 (Value.ref.inj q)) (by decide) (by decide) ?_
      show Steps p.tables e below (T1.setTop (mkF m 18 #[.val (.ref a1), .val (.ref a2)] [])) _
      refine XS.iconst X1.here hx rfl (hb hby d2_18) ?_
      show Steps p.tables e below (T1.setTop (mkF m 19 #[.val (.ref a1), .val (.ref a2)] [(.int (0 : Int32))])) _
      exact retN X1 hx (t := .boolean) Bd.returns (by simp) (hb hby d2_19) hr
    · show Q2 Z a1 a2 wP wA h0 n0 _ T1.heap _
      rw [e1]
      exact ⟨(by unfold f2; rw [if_neg hc3]), N0, rfl⟩
theorem pd_18 : parseMethodDescriptor "(I)Lcom/example/indenture/indenture/status/ContractStatus;" = some ⟨[.int], some (.object "com/example/indenture/indenture/status/ContractStatus")⟩ := by decide +kernel
theorem pd_19 : parseMethodDescriptor "(Lcom/example/indenture/indenture/status/ContractStatus;)Z" = some ⟨[(.object "com/example/indenture/indenture/status/ContractStatus")], some .boolean⟩ := by decide +kernel
theorem ef_0 (m : MethodId) (x0 : Int32) (x1 : Int32) : entryFrame m #[(.int x0), (.int x1)] maxLocals = mkF m 0 #[.val (.int x0), .val (.int x1), .unset, .unset, .unset, .unset, .unset] [] := by first | (simp [entryFrame, mkF, argsToLocals, Value.category, maxLocals]; done) | rfl
def f0 (p1 : Int32) (p2 : Int32) (w_PENDING : Addr) (w_ACTIVE : Addr) : Int32 := if (p1 &&& (1 : Int32)) = (0 : Int32) then (if (p2 &&& (1 : Int32)) = (0 : Int32) then (if (p2 &&& (1 : Int32)) = (1 : Int32) then (if (f2 w_PENDING w_PENDING w_PENDING w_ACTIVE) = (1 : Int32) then (1 : Int32) else (0 : Int32)) else (if (f2 w_PENDING w_PENDING w_PENDING w_ACTIVE) = (0 : Int32) then (1 : Int32) else (0 : Int32))) else (if (p2 &&& (1 : Int32)) = (1 : Int32) then (if (f2 w_PENDING w_ACTIVE w_PENDING w_ACTIVE) = (1 : Int32) then (1 : Int32) else (0 : Int32)) else (if (f2 w_PENDING w_ACTIVE w_PENDING w_ACTIVE) = (0 : Int32) then (1 : Int32) else (0 : Int32)))) else (if (p2 &&& (1 : Int32)) = (0 : Int32) then (if (f2 w_ACTIVE w_PENDING w_PENDING w_ACTIVE) = (0 : Int32) then (1 : Int32) else (0 : Int32)) else (if (f2 w_ACTIVE w_ACTIVE w_PENDING w_ACTIVE) = (0 : Int32) then (1 : Int32) else (0 : Int32)))
def Q0 (Z : State) (p1 : Int32) (p2 : Int32) (w_PENDING : Addr) (w_ACTIVE : Addr) (h0 : Heap) (n0 : Nat) (v : Option Value) (h : Heap) (L : List Loc) : Prop := v = some (.int (f0 p1 p2 w_PENDING w_ACTIVE)) ∧ Fr n0 L
set_option maxRecDepth 65536 in
set_option maxHeartbeats 40000000 in
theorem rm0 (l : Launch) (Z : State) (a0 : Array Value) (hw : ∀ d ∈ tables_1, d.before a0 Z = true) (ws : List Jvm.Cond) (p1 : Int32) (p2 : Int32) (w_PENDING : Addr) (w_ACTIVE : Addr) (h0 : Heap) (n0 : Nat) (Z0 : n0 ≤ h0.size) (O0 : Old Z n0 h0) (S_PENDING : Sta Z Z.heap "com/example/indenture/indenture/status/ContractStatus" "PENDING" "Lcom/example/indenture/indenture/status/ContractStatus;" (.ref w_PENDING)) (S_ACTIVE : Sta Z Z.heap "com/example/indenture/indenture/status/ContractStatus" "ACTIVE" "Lcom/example/indenture/indenture/status/ContractStatus;" (.ref w_ACTIVE)) (E_w_PENDING : Exa Z Z.heap w_PENDING "com/example/indenture/indenture/status/ContractStatus") (E_w_ACTIVE : Exa Z Z.heap w_ACTIVE "com/example/indenture/indenture/status/ContractStatus") (F_ordinal_w_PENDING : Fld Z Z.heap w_PENDING "java/lang/Enum" "ordinal" "I" (.int (0 : Int32))) (F_ordinal_w_ACTIVE : Fld Z Z.heap w_ACTIVE "java/lang/Enum" "ordinal" "I" (.int (1 : Int32))) (ne_w_PENDING_w_ACTIVE : w_PENDING ≠ w_ACTIVE) :
    MetFree l x (head1 (Jvm.Cond.code x code maxLocals ret :: ws) room_1) (fun a U => a = #[(.int p1), (.int p2)] ∧ Z.Warmed39 U.vm ∧ U.heap = h0) (fun _ _ _ _ _ => True) (fun _ U o U' => ∃ v L, o = .returned v ∧ Q0 Z p1 p2 w_PENDING w_ACTIVE h0 n0 v U'.heap L ∧ FrameEnd U o U' L room_1.cells room_1.slots) := by
  refine MetFree.of_bodySF (plainFor_of_name pn_0) hisR ?_
  intro p e s m args below meth c s₁ Bd hml0 hP hK
  obtain ⟨rfl, hZ, hh⟩ := hP
  have hx := Bd.exec
  have hby := Bd.bytes
  have hml : c.maxLocals = 7 := hml0
  have hown : s.vm.findClass "com/example/indenture/indenture/status/ContractStatusCanMoveToPinLaw" = some m.cls := findClass_of_methodNamed Bd.named
  have hnm := (name_of_methodNamed Bd.named Bd.method).1
  have X0 : Stand p l e room_1 s m #[(.int p1), (.int p2)] below meth c s₁ [] 0 0 := Stand.of_body Bd
  have e0 : s₁.heap = h0 := by rw [← hh, Bd.state]; rfl
  have N0 := Fr.nil n0
  have pre0 : ∀ t, Steps p.tables e below (s₁.setTop (mkF m 0 #[.val (.int p1), .val (.int p2), .unset, .unset, .unset, .unset, .unset] [])) t → Steps p.tables e below (s₁.setTop (entryFrame m #[(.int p1), (.int p2)] maxLocals)) t := fun t k => castTop (ef_0 m p1 p2) k
  have pre1 : ∀ t, Steps p.tables e below (s₁.setTop (mkF m 9 #[.val (.int p1), .val (.int p2), .val (.int (p1 &&& (1 : Int32))), .val (.int (p2 &&& (1 : Int32))), .unset, .unset, .unset] [(.int (p1 &&& (1 : Int32)))])) t → Steps p.tables e below (s₁.setTop (entryFrame m #[(.int p1), (.int p2)] maxLocals)) t := fun t k => pre0 t (by
    show Steps p.tables e below (s₁.setTop (mkF m 0 #[.val (.int p1), .val (.int p2), .unset, .unset, .unset, .unset, .unset] [])) _
    refine XS.iloadN X0.here hx rfl (hb hby at_0) rfl ?_
    show Steps p.tables e below (s₁.setTop (mkF m 1 #[.val (.int p1), .val (.int p2), .unset, .unset, .unset, .unset, .unset] [(.int p1)])) _
    refine XS.iconst X0.here hx rfl (hb hby at_1) ?_
    show Steps p.tables e below (s₁.setTop (mkF m 2 #[.val (.int p1), .val (.int p2), .unset, .unset, .unset, .unset, .unset] [(.int (1 : Int32)), (.int p1)])) _
    refine XS.iand X0.here hx rfl (hb hby at_2) rfl ?_
    show Steps p.tables e below (s₁.setTop (mkF m 3 #[.val (.int p1), .val (.int p2), .unset, .unset, .unset, .unset, .unset] [(.int (p1 &&& (1 : Int32)))])) _
    refine XS.istoreN X0.here hx rfl (hb hby at_3) rfl (l' := #[.val (.int p1), .val (.int p2), .val (.int (p1 &&& (1 : Int32))), .unset, .unset, .unset, .unset]) rfl ?_
    show Steps p.tables e below (s₁.setTop (mkF m 4 #[.val (.int p1), .val (.int p2), .val (.int (p1 &&& (1 : Int32))), .unset, .unset, .unset, .unset] [])) _
    refine XS.iloadN X0.here hx rfl (hb hby at_4) rfl ?_
    show Steps p.tables e below (s₁.setTop (mkF m 5 #[.val (.int p1), .val (.int p2), .val (.int (p1 &&& (1 : Int32))), .unset, .unset, .unset, .unset] [(.int p2)])) _
    refine XS.iconst X0.here hx rfl (hb hby at_5) ?_
    show Steps p.tables e below (s₁.setTop (mkF m 6 #[.val (.int p1), .val (.int p2), .val (.int (p1 &&& (1 : Int32))), .unset, .unset, .unset, .unset] [(.int (1 : Int32)), (.int p2)])) _
    refine XS.iand X0.here hx rfl (hb hby at_6) rfl ?_
    show Steps p.tables e below (s₁.setTop (mkF m 7 #[.val (.int p1), .val (.int p2), .val (.int (p1 &&& (1 : Int32))), .unset, .unset, .unset, .unset] [(.int (p2 &&& (1 : Int32)))])) _
    refine XS.istoreN X0.here hx rfl (hb hby at_7) rfl (l' := #[.val (.int p1), .val (.int p2), .val (.int (p1 &&& (1 : Int32))), .val (.int (p2 &&& (1 : Int32))), .unset, .unset, .unset]) rfl ?_
    show Steps p.tables e below (s₁.setTop (mkF m 8 #[.val (.int p1), .val (.int p2), .val (.int (p1 &&& (1 : Int32))), .val (.int (p2 &&& (1 : Int32))), .unset, .unset, .unset] [])) _
    refine XS.iloadN X0.here hx rfl (hb hby at_8) rfl ?_
    exact k)
  by_cases hc2 : (p1 &&& (1 : Int32)) = (0 : Int32)
  ·  -- pc ('own', 9): (p1 &&& (1 : Int32)) = (0 : Int32)
    -- pc 9: ContractStatusCanMoveToPinLaw.pick by rm1a
    obtain ⟨_, _, ⟨T3, L3, k3, n3⟩, -, X3, ⟨Lc3, hQ3, l3, y3, z3⟩, st3⟩ := Jvm.LawKit.callS X0 hx (y := (⟨"com/example/indenture/indenture/status/ContractStatusCanMoveToPinLaw", "pick", "(I)Lcom/example/indenture/indenture/status/ContractStatus;"⟩ : MethodName)) hown (mvT hZ (hw _ (List.mem_of_getElem? (i := 0) rfl))) (mvT hZ (hw _ (List.mem_of_getElem? (i := 1) rfl))) (mvT hZ (hw _ (List.mem_of_getElem? (i := 2) rfl))) (mvT hZ (hw _ (List.mem_of_getElem? (i := 3) rfl))) (by decide) (backOf (W := 0) (rm1a l Z a0 hw [] (p1 &&& (1 : Int32)) w_PENDING h0 n0 Z0 (S_PENDING.ext O0.2) hc2) hZ (hw _ (List.mem_of_getElem? (i := 3) rfl)) (hw _ (List.mem_of_getElem? (i := 2) rfl)) (by decide) (by decide)) (g := (mkF m 9 #[.val (.int p1), .val (.int p2), .val (.int (p1 &&& (1 : Int32))), .val (.int (p2 &&& (1 : Int32))), .unset, .unset, .unset] [(.int (p1 &&& (1 : Int32)))])) rfl (by rw [hml]; rfl) (argsL := [(.int (p1 &&& (1 : Int32)))]) (rest := []) (lenOf pd_18 rfl) rfl (by show 2 * 0 + _ ≤ _; exact Nat.le_of_eq rfl) (hb hby at_9) (fun _ _ => ⟨rfl, e0, (by decide : 0 + 0 ≤ _), (by decide : 0 + 0 ≤ _)⟩)
    dsimp only [Pt.U, Pt.locs, Pt.cells, Pt.slots] at X3 l3 y3 z3 st3 hQ3
    subst l3 y3 z3
    obtain ⟨rfl, N3q, e3⟩ := hQ3
    have N4 := Fr.app N0 N3q
    have pre5 : ∀ t, Steps p.tables e below (T3.setTop (mkF m 15 #[.val (.int p1), .val (.int p2), .val (.int (p1 &&& (1 : Int32))), .val (.int (p2 &&& (1 : Int32))), .val (.ref w_PENDING), .unset, .unset] [(.int (p2 &&& (1 : Int32)))])) t → Steps p.tables e below (s₁.setTop (entryFrame m #[(.int p1), (.int p2)] maxLocals)) t := fun t k => pre1 t (by
      show Steps p.tables e below (s₁.setTop (mkF m 9 #[.val (.int p1), .val (.int p2), .val (.int (p1 &&& (1 : Int32))), .val (.int (p2 &&& (1 : Int32))), .unset, .unset, .unset] [(.int (p1 &&& (1 : Int32)))])) _
      refine st3 _ ?_
      show Steps p.tables e below (T3.setTop (mkF m 12 #[.val (.int p1), .val (.int p2), .val (.int (p1 &&& (1 : Int32))), .val (.int (p2 &&& (1 : Int32))), .unset, .unset, .unset] [(.ref w_PENDING)])) _
      refine XS.astore X3.here hx rfl (hb hby at_12) rfl rfl (l' := #[.val (.int p1), .val (.int p2), .val (.int (p1 &&& (1 : Int32))), .val (.int (p2 &&& (1 : Int32))), .val (.ref w_PENDING), .unset, .unset]) rfl ?_
      show Steps p.tables e below (T3.setTop (mkF m 14 #[.val (.int p1), .val (.int p2), .val (.int (p1 &&& (1 : Int32))), .val (.int (p2 &&& (1 : Int32))), .val (.ref w_PENDING), .unset, .unset] [])) _
      refine XS.iloadN X3.here hx rfl (hb hby at_14) rfl ?_
      exact k)
    by_cases hc6 : (p2 &&& (1 : Int32)) = (0 : Int32)
    ·  -- pc ('own', 15): (p2 &&& (1 : Int32)) = (0 : Int32)
      -- pc 15: ContractStatusCanMoveToPinLaw.pick by rm1a
      obtain ⟨_, _, ⟨T7, L7, k7, n7⟩, -, X7, ⟨Lc7, hQ7, l7, y7, z7⟩, st7⟩ := Jvm.LawKit.callS X3 hx (y := (⟨"com/example/indenture/indenture/status/ContractStatusCanMoveToPinLaw", "pick", "(I)Lcom/example/indenture/indenture/status/ContractStatus;"⟩ : MethodName)) hown (mvT hZ (hw _ (List.mem_of_getElem? (i := 0) rfl))) (mvT hZ (hw _ (List.mem_of_getElem? (i := 1) rfl))) (mvT hZ (hw _ (List.mem_of_getElem? (i := 2) rfl))) (mvT hZ (hw _ (List.mem_of_getElem? (i := 3) rfl))) (by decide) (backOf (W := 0) (rm1a l Z a0 hw [] (p2 &&& (1 : Int32)) w_PENDING h0 n0 Z0 (S_PENDING.ext O0.2) hc6) hZ (hw _ (List.mem_of_getElem? (i := 3) rfl)) (hw _ (List.mem_of_getElem? (i := 2) rfl)) (by decide) (by decide)) (g := (mkF m 15 #[.val (.int p1), .val (.int p2), .val (.int (p1 &&& (1 : Int32))), .val (.int (p2 &&& (1 : Int32))), .val (.ref w_PENDING), .unset, .unset] [(.int (p2 &&& (1 : Int32)))])) rfl (by rw [hml]; rfl) (argsL := [(.int (p2 &&& (1 : Int32)))]) (rest := []) (lenOf pd_18 rfl) rfl (by show 2 * 0 + _ ≤ _; exact Nat.le_of_eq rfl) (hb hby at_15) (fun _ _ => ⟨rfl, e3, (by decide : 0 + 0 ≤ _), (by decide : 0 + 0 ≤ _)⟩)
      dsimp only [Pt.U, Pt.locs, Pt.cells, Pt.slots] at X7 l7 y7 z7 st7 hQ7
      subst l7 y7 z7
      obtain ⟨rfl, N7q, e7⟩ := hQ7
      have N8 := Fr.app N4 N7q
      have pre9 : ∀ t, Steps p.tables e below (T7.setTop (mkF m 26 #[.val (.int p1), .val (.int p2), .val (.int (p1 &&& (1 : Int32))), .val (.int (p2 &&& (1 : Int32))), .val (.ref w_PENDING), .val (.ref w_PENDING), .unset] [(.int (1 : Int32)), (.int (p2 &&& (1 : Int32)))])) t → Steps p.tables e below (s₁.setTop (entryFrame m #[(.int p1), (.int p2)] maxLocals)) t := fun t k => pre5 t (by
        show Steps p.tables e below (T3.setTop (mkF m 15 #[.val (.int p1), .val (.int p2), .val (.int (p1 &&& (1 : Int32))), .val (.int (p2 &&& (1 : Int32))), .val (.ref w_PENDING), .unset, .unset] [(.int (p2 &&& (1 : Int32)))])) _
        refine st7 _ ?_
        show Steps p.tables e below (T7.setTop (mkF m 18 #[.val (.int p1), .val (.int p2), .val (.int (p1 &&& (1 : Int32))), .val (.int (p2 &&& (1 : Int32))), .val (.ref w_PENDING), .unset, .unset] [(.ref w_PENDING)])) _
        refine XS.astore X7.here hx rfl (hb hby at_18) rfl rfl (l' := #[.val (.int p1), .val (.int p2), .val (.int (p1 &&& (1 : Int32))), .val (.int (p2 &&& (1 : Int32))), .val (.ref w_PENDING), .val (.ref w_PENDING), .unset]) rfl ?_
        show Steps p.tables e below (T7.setTop (mkF m 20 #[.val (.int p1), .val (.int p2), .val (.int (p1 &&& (1 : Int32))), .val (.int (p2 &&& (1 : Int32))), .val (.ref w_PENDING), .val (.ref w_PENDING), .unset] [])) _
        refine XS.iloadN X7.here hx rfl (hb hby at_20) rfl ?_
        show Steps p.tables e below (T7.setTop (mkF m 21 #[.val (.int p1), .val (.int p2), .val (.int (p1 &&& (1 : Int32))), .val (.int (p2 &&& (1 : Int32))), .val (.ref w_PENDING), .val (.ref w_PENDING), .unset] [(.int (p1 &&& (1 : Int32)))])) _
        refine XS.ifNo X7.here hx rfl (hb hby at_21) rfl ((if0 _ _).trans (teq hc2).2) ?_
        show Steps p.tables e below (T7.setTop (mkF m 24 #[.val (.int p1), .val (.int p2), .val (.int (p1 &&& (1 : Int32))), .val (.int (p2 &&& (1 : Int32))), .val (.ref w_PENDING), .val (.ref w_PENDING), .unset] [])) _
        refine XS.iloadN X7.here hx rfl (hb hby at_24) rfl ?_
        show Steps p.tables e below (T7.setTop (mkF m 25 #[.val (.int p1), .val (.int p2), .val (.int (p1 &&& (1 : Int32))), .val (.int (p2 &&& (1 : Int32))), .val (.ref w_PENDING), .val (.ref w_PENDING), .unset] [(.int (p2 &&& (1 : Int32)))])) _
        refine XS.iconst X7.here hx rfl (hb hby at_25) ?_
        exact k)
      by_cases hc10 : (p2 &&& (1 : Int32)) = (1 : Int32)
      ·  -- pc 26: (p2 &&& (1 : Int32)) = (1 : Int32)
        -- pc 48: ContractStatus.canMoveTo by rm2
        obtain ⟨cq11, kq11, q11a, q11b, q11c⟩ := isOf hZ e7 (E_w_PENDING.ext O0.2)
        obtain ⟨_, _, ⟨T11, L11, k11, n11⟩, -, X11, ⟨Lc11, hQ11, l11, y11, z11⟩, st11⟩ := X7.virtualBack hx (y := (⟨"com/example/indenture/indenture/status/ContractStatus", "canMoveTo", "(Lcom/example/indenture/indenture/status/ContractStatus;)Z"⟩ : MethodName)) (z := (⟨"com/example/indenture/indenture/status/ContractStatus", "canMoveTo", "(Lcom/example/indenture/indenture/status/ContractStatus;)Z"⟩ : MethodName)) hown (mvT hZ (hw _ (List.mem_of_getElem? (i := 9) rfl))) (mvT hZ (hw _ (List.mem_of_getElem? (i := 10) rfl))) (notFace_of_selects (args := #[]) (mvT hZ (hw _ (List.mem_of_getElem? (i := 12) rfl)))) (mvT hZ (hw _ (List.mem_of_getElem? (i := 12) rfl))) (mvT hZ (hw _ (List.mem_of_getElem? (i := 11) rfl))) (by decide) (backOf (W := 0) (rm2 l Z a0 hw [] w_PENDING w_PENDING w_PENDING w_ACTIVE h0 n0 Z0 (S_PENDING.ext O0.2) (S_ACTIVE.ext O0.2)) hZ (hw _ (List.mem_of_getElem? (i := 13) rfl)) (hw _ (List.mem_of_getElem? (i := 5) rfl)) (by decide) (by decide)) q11a q11c (g := (mkF m 48 #[.val (.int p1), .val (.int p2), .val (.int (p1 &&& (1 : Int32))), .val (.int (p2 &&& (1 : Int32))), .val (.ref w_PENDING), .val (.ref w_PENDING), .val (.int (1 : Int32))] [(.ref w_PENDING), (.ref w_PENDING)])) rfl (by rw [hml]; rfl) (Steps.refl _) (argsL := [(.ref w_PENDING)]) (rest := []) (lenOf pd_19 rfl) rfl (by show 2 * 0 + _ ≤ _; exact Nat.le_of_eq rfl) (hb hby at_48) (fun _ _ => ⟨rfl, e7, (by decide : 0 + 0 ≤ _), (by decide : 0 + 0 ≤ _)⟩)
        dsimp only [Pt.U, Pt.locs, Pt.cells, Pt.slots] at X11 l11 y11 z11 st11 hQ11
        subst l11 y11 z11
        obtain ⟨rfl, N11q, e11⟩ := hQ11
        have N12 := Fr.app N8 N11q
        have pre13 : ∀ t, Steps p.tables e below (T11.setTop (mkF m 53 #[.val (.int p1), .val (.int p2), .val (.int (p1 &&& (1 : Int32))), .val (.int (p2 &&& (1 : Int32))), .val (.ref w_PENDING), .val (.ref w_PENDING), .val (.int (1 : Int32))] [(.int (1 : Int32)), (.int (f2 w_PENDING w_PENDING w_PENDING w_ACTIVE))])) t → Steps p.tables e below (s₁.setTop (entryFrame m #[(.int p1), (.int p2)] maxLocals)) t := fun t k => pre9 t (by
          show Steps p.tables e below (T7.setTop (mkF m 26 #[.val (.int p1), .val (.int p2), .val (.int (p1 &&& (1 : Int32))), .val (.int (p2 &&& (1 : Int32))), .val (.ref w_PENDING), .val (.ref w_PENDING), .unset] [(.int (1 : Int32)), (.int (p2 &&& (1 : Int32)))])) _
          refine XS.icmpNo X7.here hx rfl (hb hby at_26) rfl (teq hc10).2 ?_
          show Steps p.tables e below (T7.setTop (mkF m 29 #[.val (.int p1), .val (.int p2), .val (.int (p1 &&& (1 : Int32))), .val (.int (p2 &&& (1 : Int32))), .val (.ref w_PENDING), .val (.ref w_PENDING), .unset] [])) _
          refine XS.iconst X7.here hx rfl (hb hby at_29) ?_
          show Steps p.tables e below (T7.setTop (mkF m 30 #[.val (.int p1), .val (.int p2), .val (.int (p1 &&& (1 : Int32))), .val (.int (p2 &&& (1 : Int32))), .val (.ref w_PENDING), .val (.ref w_PENDING), .unset] [(.int (1 : Int32))])) _
          refine XS.istore X7.here hx rfl (hb hby at_30) rfl (l' := #[.val (.int p1), .val (.int p2), .val (.int (p1 &&& (1 : Int32))), .val (.int (p2 &&& (1 : Int32))), .val (.ref w_PENDING), .val (.ref w_PENDING), .val (.int (1 : Int32))]) rfl ?_
          show Steps p.tables e below (T7.setTop (mkF m 32 #[.val (.int p1), .val (.int p2), .val (.int (p1 &&& (1 : Int32))), .val (.int (p2 &&& (1 : Int32))), .val (.ref w_PENDING), .val (.ref w_PENDING), .val (.int (1 : Int32))] [])) _
          refine XS.goto X7.here hx rfl (pc0 := 32) (pc' := 44) rfl (hb hby at_32) (by decide) (by decide) ?_
          show Steps p.tables e below (T7.setTop (mkF m 44 #[.val (.int p1), .val (.int p2), .val (.int (p1 &&& (1 : Int32))), .val (.int (p2 &&& (1 : Int32))), .val (.ref w_PENDING), .val (.ref w_PENDING), .val (.int (1 : Int32))] [])) _
          refine XS.aload X7.here hx rfl (hb hby at_44) rfl rfl ?_
          show Steps p.tables e below (T7.setTop (mkF m 46 #[.val (.int p1), .val (.int p2), .val (.int (p1 &&& (1 : Int32))), .val (.int (p2 &&& (1 : Int32))), .val (.ref w_PENDING), .val (.ref w_PENDING), .val (.int (1 : Int32))] [(.ref w_PENDING)])) _
          refine XS.aload X7.here hx rfl (hb hby at_46) rfl rfl ?_
          show Steps p.tables e below (T7.setTop (mkF m 48 #[.val (.int p1), .val (.int p2), .val (.int (p1 &&& (1 : Int32))), .val (.int (p2 &&& (1 : Int32))), .val (.ref w_PENDING), .val (.ref w_PENDING), .val (.int (1 : Int32))] [(.ref w_PENDING), (.ref w_PENDING)])) _
          refine st11.trans ?_
          show Steps p.tables e below (T11.setTop (mkF m 51 #[.val (.int p1), .val (.int p2), .val (.int (p1 &&& (1 : Int32))), .val (.int (p2 &&& (1 : Int32))), .val (.ref w_PENDING), .val (.ref w_PENDING), .val (.int (1 : Int32))] [(.int (f2 w_PENDING w_PENDING w_PENDING w_ACTIVE))])) _
          refine XS.iload X11.here hx rfl (hb hby at_51) rfl ?_
          exact k)
        by_cases hc14 : (f2 w_PENDING w_PENDING w_PENDING w_ACTIVE) = (1 : Int32)
        ·  -- pc 53: (f2 w_PENDING w_PENDING w_PENDING w_ACTIVE) = (1 : Int32)
          obtain ⟨fs, hr, hrun, hended, hW, hsame⟩ := X11.leave (v := some (.int (1 : Int32))) (fun h => by rw [Bd.returns] at h; cases h)
          refine ⟨_, _, pre13 _ ?_, hrun, hended, _, _, rfl, ?_, ⟨_, rfl⟩, hW, hsame.mono (by decide) (by decide)⟩
          · show Steps p.tables e below (T11.setTop (mkF m 53 #[.val (.int p1), .val (.int p2), .val (.int (p1 &&& (1 : Int32))), .val (.int (p2 &&& (1 : Int32))), .val (.ref w_PENDING), .val (.ref w_PENDING), .val (.int (1 : Int32))] [(.int (1 : Int32)), (.int (f2 w_PENDING w_PENDING w_PENDING w_ACTIVE))])) _
            refine XS.icmpNo X11.here hx rfl (hb hby at_53) rfl (teq hc14).2 ?_
            show Steps p.tables e below (T11.setTop (mkF m 56 #[.val (.int p1), .val (.int p2), .val (.int (p1 &&& (1 : Int32))), .val (.int (p2 &&& (1 : Int32))), .val (.ref w_PENDING), .val (.ref w_PENDING), .val (.int (1 : Int32))] [])) _
            refine XS.iconst X11.here hx rfl (hb hby at_56) ?_
            show Steps p.tables e below (T11.setTop (mkF m 57 #[.val (.int p1), .val (.int p2), .val (.int (p1 &&& (1 : Int32))), .val (.int (p2 &&& (1 : Int32))), .val (.ref w_PENDING), .val (.ref w_PENDING), .val (.int (1 : Int32))] [(.int (1 : Int32))])) _
            refine XS.goto X11.here hx rfl (pc0 := 57) (pc' := 61) rfl (hb hby at_57) (by decide) (by decide) ?_
            show Steps p.tables e below (T11.setTop (mkF m 61 #[.val (.int p1), .val (.int p2), .val (.int (p1 &&& (1 : Int32))), .val (.int (p2 &&& (1 : Int32))), .val (.ref w_PENDING), .val (.ref w_PENDING), .val (.int (1 : Int32))] [(.int (1 : Int32))])) _
            exact retN X11 hx (t := .boolean) Bd.returns (by simp) (hb hby at_61) hr
          · show Q0 Z p1 p2 w_PENDING w_ACTIVE h0 n0 _ T11.heap _
            rw [e11]
            exact ⟨(by unfold f0; rw [if_pos hc2, if_pos hc6, if_pos hc10, if_pos hc14]), N12⟩
        ·  -- pc 53: not (f2 w_PENDING w_PENDING w_PENDING w_ACTIVE) = (1 : Int32)
          obtain ⟨fs, hr, hrun, hended, hW, hsame⟩ := X11.leave (v := some (.int (0 : Int32))) (fun h => by rw [Bd.returns] at h; cases h)
          refine ⟨_, _, pre13 _ ?_, hrun, hended, _, _, rfl, ?_, ⟨_, rfl⟩, hW, hsame.mono (by decide) (by decide)⟩
          · show Steps p.tables e below (T11.setTop (mkF m 53 #[.val (.int p1), .val (.int p2), .val (.int (p1 &&& (1 : Int32))), .val (.int (p2 &&& (1 : Int32))), .val (.ref w_PENDING), .val (.ref w_PENDING), .val (.int (1 : Int32))] [(.int (1 : Int32)), (.int (f2 w_PENDING w_PENDING w_PENDING w_ACTIVE))])) _
            refine XS.icmpYes X11.here hx rfl (pc0 := 53) (pc' := 60) rfl (hb hby at_53) rfl (feq hc14).2 (by decide) (by decide) ?_
            show Steps p.tables e below (T11.setTop (mkF m 60 #[.val (.int p1), .val (.int p2), .val (.int (p1 &&& (1 : Int32))), .val (.int (p2 &&& (1 : Int32))), .val (.ref w_PENDING), .val (.ref w_PENDING), .val (.int (1 : Int32))] [])) _
            refine XS.iconst X11.here hx rfl (hb hby at_60) ?_
            show Steps p.tables e below (T11.setTop (mkF m 61 #[.val (.int p1), .val (.int p2), .val (.int (p1 &&& (1 : Int32))), .val (.int (p2 &&& (1 : Int32))), .val (.ref w_PENDING), .val (.ref w_PENDING), .val (.int (1 : Int32))] [(.int (0 : Int32))])) _
            exact retN X11 hx (t := .boolean) Bd.returns (by simp) (hb hby at_61) hr
          · show Q0 Z p1 p2 w_PENDING w_ACTIVE h0 n0 _ T11.heap _
            rw [e11]
            exact ⟨(by unfold f0; rw [if_pos hc2, if_pos hc6, if_pos hc10, if_neg hc14]), N12⟩
      ·  -- pc 26: not (p2 &&& (1 : Int32)) = (1 : Int32)
        -- pc 48: ContractStatus.canMoveTo by rm2
        obtain ⟨cq15, kq15, q15a, q15b, q15c⟩ := isOf hZ e7 (E_w_PENDING.ext O0.2)
        obtain ⟨_, _, ⟨T15, L15, k15, n15⟩, -, X15, ⟨Lc15, hQ15, l15, y15, z15⟩, st15⟩ := X7.virtualBack hx (y := (⟨"com/example/indenture/indenture/status/ContractStatus", "canMoveTo", "(Lcom/example/indenture/indenture/status/ContractStatus;)Z"⟩ : MethodName)) (z := (⟨"com/example/indenture/indenture/status/ContractStatus", "canMoveTo", "(Lcom/example/indenture/indenture/status/ContractStatus;)Z"⟩ : MethodName)) hown (mvT hZ (hw _ (List.mem_of_getElem? (i := 9) rfl))) (mvT hZ (hw _ (List.mem_of_getElem? (i := 10) rfl))) (notFace_of_selects (args := #[]) (mvT hZ (hw _ (List.mem_of_getElem? (i := 12) rfl)))) (mvT hZ (hw _ (List.mem_of_getElem? (i := 12) rfl))) (mvT hZ (hw _ (List.mem_of_getElem? (i := 11) rfl))) (by decide) (backOf (W := 0) (rm2 l Z a0 hw [] w_PENDING w_PENDING w_PENDING w_ACTIVE h0 n0 Z0 (S_PENDING.ext O0.2) (S_ACTIVE.ext O0.2)) hZ (hw _ (List.mem_of_getElem? (i := 13) rfl)) (hw _ (List.mem_of_getElem? (i := 5) rfl)) (by decide) (by decide)) q15a q15c (g := (mkF m 48 #[.val (.int p1), .val (.int p2), .val (.int (p1 &&& (1 : Int32))), .val (.int (p2 &&& (1 : Int32))), .val (.ref w_PENDING), .val (.ref w_PENDING), .val (.int (0 : Int32))] [(.ref w_PENDING), (.ref w_PENDING)])) rfl (by rw [hml]; rfl) (Steps.refl _) (argsL := [(.ref w_PENDING)]) (rest := []) (lenOf pd_19 rfl) rfl (by show 2 * 0 + _ ≤ _; exact Nat.le_of_eq rfl) (hb hby at_48) (fun _ _ => ⟨rfl, e7, (by decide : 0 + 0 ≤ _), (by decide : 0 + 0 ≤ _)⟩)
        dsimp only [Pt.U, Pt.locs, Pt.cells, Pt.slots] at X15 l15 y15 z15 st15 hQ15
        subst l15 y15 z15
        obtain ⟨rfl, N15q, e15⟩ := hQ15
        have N16 := Fr.app N8 N15q
        have pre17 : ∀ t, Steps p.tables e below (T15.setTop (mkF m 53 #[.val (.int p1), .val (.int p2), .val (.int (p1 &&& (1 : Int32))), .val (.int (p2 &&& (1 : Int32))), .val (.ref w_PENDING), .val (.ref w_PENDING), .val (.int (0 : Int32))] [(.int (0 : Int32)), (.int (f2 w_PENDING w_PENDING w_PENDING w_ACTIVE))])) t → Steps p.tables e below (s₁.setTop (entryFrame m #[(.int p1), (.int p2)] maxLocals)) t := fun t k => pre9 t (by
          show Steps p.tables e below (T7.setTop (mkF m 26 #[.val (.int p1), .val (.int p2), .val (.int (p1 &&& (1 : Int32))), .val (.int (p2 &&& (1 : Int32))), .val (.ref w_PENDING), .val (.ref w_PENDING), .unset] [(.int (1 : Int32)), (.int (p2 &&& (1 : Int32)))])) _
          refine XS.icmpYes X7.here hx rfl (pc0 := 26) (pc' := 35) rfl (hb hby at_26) rfl (feq hc10).2 (by decide) (by decide) ?_
          show Steps p.tables e below (T7.setTop (mkF m 35 #[.val (.int p1), .val (.int p2), .val (.int (p1 &&& (1 : Int32))), .val (.int (p2 &&& (1 : Int32))), .val (.ref w_PENDING), .val (.ref w_PENDING), .unset] [])) _
          refine XS.iconst X7.here hx rfl (hb hby at_35) ?_
          show Steps p.tables e below (T7.setTop (mkF m 36 #[.val (.int p1), .val (.int p2), .val (.int (p1 &&& (1 : Int32))), .val (.int (p2 &&& (1 : Int32))), .val (.ref w_PENDING), .val (.ref w_PENDING), .unset] [(.int (0 : Int32))])) _
          refine XS.istore X7.here hx rfl (hb hby at_36) rfl (l' := #[.val (.int p1), .val (.int p2), .val (.int (p1 &&& (1 : Int32))), .val (.int (p2 &&& (1 : Int32))), .val (.ref w_PENDING), .val (.ref w_PENDING), .val (.int (0 : Int32))]) rfl ?_
          show Steps p.tables e below (T7.setTop (mkF m 38 #[.val (.int p1), .val (.int p2), .val (.int (p1 &&& (1 : Int32))), .val (.int (p2 &&& (1 : Int32))), .val (.ref w_PENDING), .val (.ref w_PENDING), .val (.int (0 : Int32))] [])) _
          refine XS.goto X7.here hx rfl (pc0 := 38) (pc' := 44) rfl (hb hby at_38) (by decide) (by decide) ?_
          show Steps p.tables e below (T7.setTop (mkF m 44 #[.val (.int p1), .val (.int p2), .val (.int (p1 &&& (1 : Int32))), .val (.int (p2 &&& (1 : Int32))), .val (.ref w_PENDING), .val (.ref w_PENDING), .val (.int (0 : Int32))] [])) _
          refine XS.aload X7.here hx rfl (hb hby at_44) rfl rfl ?_
          show Steps p.tables e below (T7.setTop (mkF m 46 #[.val (.int p1), .val (.int p2), .val (.int (p1 &&& (1 : Int32))), .val (.int (p2 &&& (1 : Int32))), .val (.ref w_PENDING), .val (.ref w_PENDING), .val (.int (0 : Int32))] [(.ref w_PENDING)])) _
          refine XS.aload X7.here hx rfl (hb hby at_46) rfl rfl ?_
          show Steps p.tables e below (T7.setTop (mkF m 48 #[.val (.int p1), .val (.int p2), .val (.int (p1 &&& (1 : Int32))), .val (.int (p2 &&& (1 : Int32))), .val (.ref w_PENDING), .val (.ref w_PENDING), .val (.int (0 : Int32))] [(.ref w_PENDING), (.ref w_PENDING)])) _
          refine st15.trans ?_
          show Steps p.tables e below (T15.setTop (mkF m 51 #[.val (.int p1), .val (.int p2), .val (.int (p1 &&& (1 : Int32))), .val (.int (p2 &&& (1 : Int32))), .val (.ref w_PENDING), .val (.ref w_PENDING), .val (.int (0 : Int32))] [(.int (f2 w_PENDING w_PENDING w_PENDING w_ACTIVE))])) _
          refine XS.iload X15.here hx rfl (hb hby at_51) rfl ?_
          exact k)
        by_cases hc18 : (f2 w_PENDING w_PENDING w_PENDING w_ACTIVE) = (0 : Int32)
        ·  -- pc 53: (f2 w_PENDING w_PENDING w_PENDING w_ACTIVE) = (0 : Int32)
          obtain ⟨fs, hr, hrun, hended, hW, hsame⟩ := X15.leave (v := some (.int (1 : Int32))) (fun h => by rw [Bd.returns] at h; cases h)
          refine ⟨_, _, pre17 _ ?_, hrun, hended, _, _, rfl, ?_, ⟨_, rfl⟩, hW, hsame.mono (by decide) (by decide)⟩
          · show Steps p.tables e below (T15.setTop (mkF m 53 #[.val (.int p1), .val (.int p2), .val (.int (p1 &&& (1 : Int32))), .val (.int (p2 &&& (1 : Int32))), .val (.ref w_PENDING), .val (.ref w_PENDING), .val (.int (0 : Int32))] [(.int (0 : Int32)), (.int (f2 w_PENDING w_PENDING w_PENDING w_ACTIVE))])) _
            refine XS.icmpNo X15.here hx rfl (hb hby at_53) rfl (teq hc18).2 ?_
            show Steps p.tables e below (T15.setTop (mkF m 56 #[.val (.int p1), .val (.int p2), .val (.int (p1 &&& (1 : Int32))), .val (.int (p2 &&& (1 : Int32))), .val (.ref w_PENDING), .val (.ref w_PENDING), .val (.int (0 : Int32))] [])) _
            refine XS.iconst X15.here hx rfl (hb hby at_56) ?_
            show Steps p.tables e below (T15.setTop (mkF m 57 #[.val (.int p1), .val (.int p2), .val (.int (p1 &&& (1 : Int32))), .val (.int (p2 &&& (1 : Int32))), .val (.ref w_PENDING), .val (.ref w_PENDING), .val (.int (0 : Int32))] [(.int (1 : Int32))])) _
            refine XS.goto X15.here hx rfl (pc0 := 57) (pc' := 61) rfl (hb hby at_57) (by decide) (by decide) ?_
            show Steps p.tables e below (T15.setTop (mkF m 61 #[.val (.int p1), .val (.int p2), .val (.int (p1 &&& (1 : Int32))), .val (.int (p2 &&& (1 : Int32))), .val (.ref w_PENDING), .val (.ref w_PENDING), .val (.int (0 : Int32))] [(.int (1 : Int32))])) _
            exact retN X15 hx (t := .boolean) Bd.returns (by simp) (hb hby at_61) hr
          · show Q0 Z p1 p2 w_PENDING w_ACTIVE h0 n0 _ T15.heap _
            rw [e15]
            exact ⟨(by unfold f0; rw [if_pos hc2, if_pos hc6, if_neg hc10, if_pos hc18]), N16⟩
        ·  -- pc 53: not (f2 w_PENDING w_PENDING w_PENDING w_ACTIVE) = (0 : Int32)
          obtain ⟨fs, hr, hrun, hended, hW, hsame⟩ := X15.leave (v := some (.int (0 : Int32))) (fun h => by rw [Bd.returns] at h; cases h)
          refine ⟨_, _, pre17 _ ?_, hrun, hended, _, _, rfl, ?_, ⟨_, rfl⟩, hW, hsame.mono (by decide) (by decide)⟩
          · show Steps p.tables e below (T15.setTop (mkF m 53 #[.val (.int p1), .val (.int p2), .val (.int (p1 &&& (1 : Int32))), .val (.int (p2 &&& (1 : Int32))), .val (.ref w_PENDING), .val (.ref w_PENDING), .val (.int (0 : Int32))] [(.int (0 : Int32)), (.int (f2 w_PENDING w_PENDING w_PENDING w_ACTIVE))])) _
            refine XS.icmpYes X15.here hx rfl (pc0 := 53) (pc' := 60) rfl (hb hby at_53) rfl (feq hc18).2 (by decide) (by decide) ?_
            show Steps p.tables e below (T15.setTop (mkF m 60 #[.val (.int p1), .val (.int p2), .val (.int (p1 &&& (1 : Int32))), .val (.int (p2 &&& (1 : Int32))), .val (.ref w_PENDING), .val (.ref w_PENDING), .val (.int (0 : Int32))] [])) _
            refine XS.iconst X15.here hx rfl (hb hby at_60) ?_
            show Steps p.tables e below (T15.setTop (mkF m 61 #[.val (.int p1), .val (.int p2), .val (.int (p1 &&& (1 : Int32))), .val (.int (p2 &&& (1 : Int32))), .val (.ref w_PENDING), .val (.ref w_PENDING), .val (.int (0 : Int32))] [(.int (0 : Int32))])) _
            exact retN X15 hx (t := .boolean) Bd.returns (by simp) (hb hby at_61) hr
          · show Q0 Z p1 p2 w_PENDING w_ACTIVE h0 n0 _ T15.heap _
            rw [e15]
            exact ⟨(by unfold f0; rw [if_pos hc2, if_pos hc6, if_neg hc10, if_neg hc18]), N16⟩
    ·  -- pc ('own', 15): not (p2 &&& (1 : Int32)) = (0 : Int32)
      -- pc 15: ContractStatusCanMoveToPinLaw.pick by rm1b
      obtain ⟨_, _, ⟨T19, L19, k19, n19⟩, -, X19, ⟨Lc19, hQ19, l19, y19, z19⟩, st19⟩ := Jvm.LawKit.callS X3 hx (y := (⟨"com/example/indenture/indenture/status/ContractStatusCanMoveToPinLaw", "pick", "(I)Lcom/example/indenture/indenture/status/ContractStatus;"⟩ : MethodName)) hown (mvT hZ (hw _ (List.mem_of_getElem? (i := 0) rfl))) (mvT hZ (hw _ (List.mem_of_getElem? (i := 1) rfl))) (mvT hZ (hw _ (List.mem_of_getElem? (i := 2) rfl))) (mvT hZ (hw _ (List.mem_of_getElem? (i := 3) rfl))) (by decide) (backOf (W := 0) (rm1b l Z a0 hw [] (p2 &&& (1 : Int32)) w_ACTIVE h0 n0 Z0 (S_ACTIVE.ext O0.2) hc6) hZ (hw _ (List.mem_of_getElem? (i := 3) rfl)) (hw _ (List.mem_of_getElem? (i := 2) rfl)) (by decide) (by decide)) (g := (mkF m 15 #[.val (.int p1), .val (.int p2), .val (.int (p1 &&& (1 : Int32))), .val (.int (p2 &&& (1 : Int32))), .val (.ref w_PENDING), .unset, .unset] [(.int (p2 &&& (1 : Int32)))])) rfl (by rw [hml]; rfl) (argsL := [(.int (p2 &&& (1 : Int32)))]) (rest := []) (lenOf pd_18 rfl) rfl (by show 2 * 0 + _ ≤ _; exact Nat.le_of_eq rfl) (hb hby at_15) (fun _ _ => ⟨rfl, e3, (by decide : 0 + 0 ≤ _), (by decide : 0 + 0 ≤ _)⟩)
      dsimp only [Pt.U, Pt.locs, Pt.cells, Pt.slots] at X19 l19 y19 z19 st19 hQ19
      subst l19 y19 z19
      obtain ⟨rfl, N19q, e19⟩ := hQ19
      have N20 := Fr.app N4 N19q
      have pre21 : ∀ t, Steps p.tables e below (T19.setTop (mkF m 26 #[.val (.int p1), .val (.int p2), .val (.int (p1 &&& (1 : Int32))), .val (.int (p2 &&& (1 : Int32))), .val (.ref w_PENDING), .val (.ref w_ACTIVE), .unset] [(.int (1 : Int32)), (.int (p2 &&& (1 : Int32)))])) t → Steps p.tables e below (s₁.setTop (entryFrame m #[(.int p1), (.int p2)] maxLocals)) t := fun t k => pre5 t (by
        show Steps p.tables e below (T3.setTop (mkF m 15 #[.val (.int p1), .val (.int p2), .val (.int (p1 &&& (1 : Int32))), .val (.int (p2 &&& (1 : Int32))), .val (.ref w_PENDING), .unset, .unset] [(.int (p2 &&& (1 : Int32)))])) _
        refine st19 _ ?_
        show Steps p.tables e below (T19.setTop (mkF m 18 #[.val (.int p1), .val (.int p2), .val (.int (p1 &&& (1 : Int32))), .val (.int (p2 &&& (1 : Int32))), .val (.ref w_PENDING), .unset, .unset] [(.ref w_ACTIVE)])) _
        refine XS.astore X19.here hx rfl (hb hby at_18) rfl rfl (l' := #[.val (.int p1), .val (.int p2), .val (.int (p1 &&& (1 : Int32))), .val (.int (p2 &&& (1 : Int32))), .val (.ref w_PENDING), .val (.ref w_ACTIVE), .unset]) rfl ?_
        show Steps p.tables e below (T19.setTop (mkF m 20 #[.val (.int p1), .val (.int p2), .val (.int (p1 &&& (1 : Int32))), .val (.int (p2 &&& (1 : Int32))), .val (.ref w_PENDING), .val (.ref w_ACTIVE), .unset] [])) _
        refine XS.iloadN X19.here hx rfl (hb hby at_20) rfl ?_
        show Steps p.tables e below (T19.setTop (mkF m 21 #[.val (.int p1), .val (.int p2), .val (.int (p1 &&& (1 : Int32))), .val (.int (p2 &&& (1 : Int32))), .val (.ref w_PENDING), .val (.ref w_ACTIVE), .unset] [(.int (p1 &&& (1 : Int32)))])) _
        refine XS.ifNo X19.here hx rfl (hb hby at_21) rfl ((if0 _ _).trans (teq hc2).2) ?_
        show Steps p.tables e below (T19.setTop (mkF m 24 #[.val (.int p1), .val (.int p2), .val (.int (p1 &&& (1 : Int32))), .val (.int (p2 &&& (1 : Int32))), .val (.ref w_PENDING), .val (.ref w_ACTIVE), .unset] [])) _
        refine XS.iloadN X19.here hx rfl (hb hby at_24) rfl ?_
        show Steps p.tables e below (T19.setTop (mkF m 25 #[.val (.int p1), .val (.int p2), .val (.int (p1 &&& (1 : Int32))), .val (.int (p2 &&& (1 : Int32))), .val (.ref w_PENDING), .val (.ref w_ACTIVE), .unset] [(.int (p2 &&& (1 : Int32)))])) _
        refine XS.iconst X19.here hx rfl (hb hby at_25) ?_
        exact k)
      by_cases hc22 : (p2 &&& (1 : Int32)) = (1 : Int32)
      ·  -- pc 26: (p2 &&& (1 : Int32)) = (1 : Int32)
        -- pc 48: ContractStatus.canMoveTo by rm2
        obtain ⟨cq23, kq23, q23a, q23b, q23c⟩ := isOf hZ e19 (E_w_PENDING.ext O0.2)
        obtain ⟨_, _, ⟨T23, L23, k23, n23⟩, -, X23, ⟨Lc23, hQ23, l23, y23, z23⟩, st23⟩ := X19.virtualBack hx (y := (⟨"com/example/indenture/indenture/status/ContractStatus", "canMoveTo", "(Lcom/example/indenture/indenture/status/ContractStatus;)Z"⟩ : MethodName)) (z := (⟨"com/example/indenture/indenture/status/ContractStatus", "canMoveTo", "(Lcom/example/indenture/indenture/status/ContractStatus;)Z"⟩ : MethodName)) hown (mvT hZ (hw _ (List.mem_of_getElem? (i := 9) rfl))) (mvT hZ (hw _ (List.mem_of_getElem? (i := 10) rfl))) (notFace_of_selects (args := #[]) (mvT hZ (hw _ (List.mem_of_getElem? (i := 12) rfl)))) (mvT hZ (hw _ (List.mem_of_getElem? (i := 12) rfl))) (mvT hZ (hw _ (List.mem_of_getElem? (i := 11) rfl))) (by decide) (backOf (W := 0) (rm2 l Z a0 hw [] w_PENDING w_ACTIVE w_PENDING w_ACTIVE h0 n0 Z0 (S_PENDING.ext O0.2) (S_ACTIVE.ext O0.2)) hZ (hw _ (List.mem_of_getElem? (i := 13) rfl)) (hw _ (List.mem_of_getElem? (i := 5) rfl)) (by decide) (by decide)) q23a q23c (g := (mkF m 48 #[.val (.int p1), .val (.int p2), .val (.int (p1 &&& (1 : Int32))), .val (.int (p2 &&& (1 : Int32))), .val (.ref w_PENDING), .val (.ref w_ACTIVE), .val (.int (1 : Int32))] [(.ref w_ACTIVE), (.ref w_PENDING)])) rfl (by rw [hml]; rfl) (Steps.refl _) (argsL := [(.ref w_ACTIVE)]) (rest := []) (lenOf pd_19 rfl) rfl (by show 2 * 0 + _ ≤ _; exact Nat.le_of_eq rfl) (hb hby at_48) (fun _ _ => ⟨rfl, e19, (by decide : 0 + 0 ≤ _), (by decide : 0 + 0 ≤ _)⟩)
        dsimp only [Pt.U, Pt.locs, Pt.cells, Pt.slots] at X23 l23 y23 z23 st23 hQ23
        subst l23 y23 z23
        obtain ⟨rfl, N23q, e23⟩ := hQ23
        have N24 := Fr.app N20 N23q
        have pre25 : ∀ t, Steps p.tables e below (T23.setTop (mkF m 53 #[.val (.int p1), .val (.int p2), .val (.int (p1 &&& (1 : Int32))), .val (.int (p2 &&& (1 : Int32))), .val (.ref w_PENDING), .val (.ref w_ACTIVE), .val (.int (1 : Int32))] [(.int (1 : Int32)), (.int (f2 w_PENDING w_ACTIVE w_PENDING w_ACTIVE))])) t → Steps p.tables e below (s₁.setTop (entryFrame m #[(.int p1), (.int p2)] maxLocals)) t := fun t k => pre21 t (by
          show Steps p.tables e below (T19.setTop (mkF m 26 #[.val (.int p1), .val (.int p2), .val (.int (p1 &&& (1 : Int32))), .val (.int (p2 &&& (1 : Int32))), .val (.ref w_PENDING), .val (.ref w_ACTIVE), .unset] [(.int (1 : Int32)), (.int (p2 &&& (1 : Int32)))])) _
          refine XS.icmpNo X19.here hx rfl (hb hby at_26) rfl (teq hc22).2 ?_
          show Steps p.tables e below (T19.setTop (mkF m 29 #[.val (.int p1), .val (.int p2), .val (.int (p1 &&& (1 : Int32))), .val (.int (p2 &&& (1 : Int32))), .val (.ref w_PENDING), .val (.ref w_ACTIVE), .unset] [])) _
          refine XS.iconst X19.here hx rfl (hb hby at_29) ?_
          show Steps p.tables e below (T19.setTop (mkF m 30 #[.val (.int p1), .val (.int p2), .val (.int (p1 &&& (1 : Int32))), .val (.int (p2 &&& (1 : Int32))), .val (.ref w_PENDING), .val (.ref w_ACTIVE), .unset] [(.int (1 : Int32))])) _
          refine XS.istore X19.here hx rfl (hb hby at_30) rfl (l' := #[.val (.int p1), .val (.int p2), .val (.int (p1 &&& (1 : Int32))), .val (.int (p2 &&& (1 : Int32))), .val (.ref w_PENDING), .val (.ref w_ACTIVE), .val (.int (1 : Int32))]) rfl ?_
          show Steps p.tables e below (T19.setTop (mkF m 32 #[.val (.int p1), .val (.int p2), .val (.int (p1 &&& (1 : Int32))), .val (.int (p2 &&& (1 : Int32))), .val (.ref w_PENDING), .val (.ref w_ACTIVE), .val (.int (1 : Int32))] [])) _
          refine XS.goto X19.here hx rfl (pc0 := 32) (pc' := 44) rfl (hb hby at_32) (by decide) (by decide) ?_
          show Steps p.tables e below (T19.setTop (mkF m 44 #[.val (.int p1), .val (.int p2), .val (.int (p1 &&& (1 : Int32))), .val (.int (p2 &&& (1 : Int32))), .val (.ref w_PENDING), .val (.ref w_ACTIVE), .val (.int (1 : Int32))] [])) _
          refine XS.aload X19.here hx rfl (hb hby at_44) rfl rfl ?_
          show Steps p.tables e below (T19.setTop (mkF m 46 #[.val (.int p1), .val (.int p2), .val (.int (p1 &&& (1 : Int32))), .val (.int (p2 &&& (1 : Int32))), .val (.ref w_PENDING), .val (.ref w_ACTIVE), .val (.int (1 : Int32))] [(.ref w_PENDING)])) _
          refine XS.aload X19.here hx rfl (hb hby at_46) rfl rfl ?_
          show Steps p.tables e below (T19.setTop (mkF m 48 #[.val (.int p1), .val (.int p2), .val (.int (p1 &&& (1 : Int32))), .val (.int (p2 &&& (1 : Int32))), .val (.ref w_PENDING), .val (.ref w_ACTIVE), .val (.int (1 : Int32))] [(.ref w_ACTIVE), (.ref w_PENDING)])) _
          refine st23.trans ?_
          show Steps p.tables e below (T23.setTop (mkF m 51 #[.val (.int p1), .val (.int p2), .val (.int (p1 &&& (1 : Int32))), .val (.int (p2 &&& (1 : Int32))), .val (.ref w_PENDING), .val (.ref w_ACTIVE), .val (.int (1 : Int32))] [(.int (f2 w_PENDING w_ACTIVE w_PENDING w_ACTIVE))])) _
          refine XS.iload X23.here hx rfl (hb hby at_51) rfl ?_
          exact k)
        by_cases hc26 : (f2 w_PENDING w_ACTIVE w_PENDING w_ACTIVE) = (1 : Int32)
        ·  -- pc 53: (f2 w_PENDING w_ACTIVE w_PENDING w_ACTIVE) = (1 : Int32)
          obtain ⟨fs, hr, hrun, hended, hW, hsame⟩ := X23.leave (v := some (.int (1 : Int32))) (fun h => by rw [Bd.returns] at h; cases h)
          refine ⟨_, _, pre25 _ ?_, hrun, hended, _, _, rfl, ?_, ⟨_, rfl⟩, hW, hsame.mono (by decide) (by decide)⟩
          · show Steps p.tables e below (T23.setTop (mkF m 53 #[.val (.int p1), .val (.int p2), .val (.int (p1 &&& (1 : Int32))), .val (.int (p2 &&& (1 : Int32))), .val (.ref w_PENDING), .val (.ref w_ACTIVE), .val (.int (1 : Int32))] [(.int (1 : Int32)), (.int (f2 w_PENDING w_ACTIVE w_PENDING w_ACTIVE))])) _
            refine XS.icmpNo X23.here hx rfl (hb hby at_53) rfl (teq hc26).2 ?_
            show Steps p.tables e below (T23.setTop (mkF m 56 #[.val (.int p1), .val (.int p2), .val (.int (p1 &&& (1 : Int32))), .val (.int (p2 &&& (1 : Int32))), .val (.ref w_PENDING), .val (.ref w_ACTIVE), .val (.int (1 : Int32))] [])) _
            refine XS.iconst X23.here hx rfl (hb hby at_56) ?_
            show Steps p.tables e below (T23.setTop (mkF m 57 #[.val (.int p1), .val (.int p2), .val (.int (p1 &&& (1 : Int32))), .val (.int (p2 &&& (1 : Int32))), .val (.ref w_PENDING), .val (.ref w_ACTIVE), .val (.int (1 : Int32))] [(.int (1 : Int32))])) _
            refine XS.goto X23.here hx rfl (pc0 := 57) (pc' := 61) rfl (hb hby at_57) (by decide) (by decide) ?_
            show Steps p.tables e below (T23.setTop (mkF m 61 #[.val (.int p1), .val (.int p2), .val (.int (p1 &&& (1 : Int32))), .val (.int (p2 &&& (1 : Int32))), .val (.ref w_PENDING), .val (.ref w_ACTIVE), .val (.int (1 : Int32))] [(.int (1 : Int32))])) _
            exact retN X23 hx (t := .boolean) Bd.returns (by simp) (hb hby at_61) hr
          · show Q0 Z p1 p2 w_PENDING w_ACTIVE h0 n0 _ T23.heap _
            rw [e23]
            exact ⟨(by unfold f0; rw [if_pos hc2, if_neg hc6, if_pos hc22, if_pos hc26]), N24⟩
        ·  -- pc 53: not (f2 w_PENDING w_ACTIVE w_PENDING w_ACTIVE) = (1 : Int32)
          obtain ⟨fs, hr, hrun, hended, hW, hsame⟩ := X23.leave (v := some (.int (0 : Int32))) (fun h => by rw [Bd.returns] at h; cases h)
          refine ⟨_, _, pre25 _ ?_, hrun, hended, _, _, rfl, ?_, ⟨_, rfl⟩, hW, hsame.mono (by decide) (by decide)⟩
          · show Steps p.tables e below (T23.setTop (mkF m 53 #[.val (.int p1), .val (.int p2), .val (.int (p1 &&& (1 : Int32))), .val (.int (p2 &&& (1 : Int32))), .val (.ref w_PENDING), .val (.ref w_ACTIVE), .val (.int (1 : Int32))] [(.int (1 : Int32)), (.int (f2 w_PENDING w_ACTIVE w_PENDING w_ACTIVE))])) _
            refine XS.icmpYes X23.here hx rfl (pc0 := 53) (pc' := 60) rfl (hb hby at_53) rfl (feq hc26).2 (by decide) (by decide) ?_
            show Steps p.tables e below (T23.setTop (mkF m 60 #[.val (.int p1), .val (.int p2), .val (.int (p1 &&& (1 : Int32))), .val (.int (p2 &&& (1 : Int32))), .val (.ref w_PENDING), .val (.ref w_ACTIVE), .val (.int (1 : Int32))] [])) _
            refine XS.iconst X23.here hx rfl (hb hby at_60) ?_
            show Steps p.tables e below (T23.setTop (mkF m 61 #[.val (.int p1), .val (.int p2), .val (.int (p1 &&& (1 : Int32))), .val (.int (p2 &&& (1 : Int32))), .val (.ref w_PENDING), .val (.ref w_ACTIVE), .val (.int (1 : Int32))] [(.int (0 : Int32))])) _
            exact retN X23 hx (t := .boolean) Bd.returns (by simp) (hb hby at_61) hr
          · show Q0 Z p1 p2 w_PENDING w_ACTIVE h0 n0 _ T23.heap _
            rw [e23]
            exact ⟨(by unfold f0; rw [if_pos hc2, if_neg hc6, if_pos hc22, if_neg hc26]), N24⟩
      ·  -- pc 26: not (p2 &&& (1 : Int32)) = (1 : Int32)
        -- pc 48: ContractStatus.canMoveTo by rm2
        obtain ⟨cq27, kq27, q27a, q27b, q27c⟩ := isOf hZ e19 (E_w_PENDING.ext O0.2)
        obtain ⟨_, _, ⟨T27, L27, k27, n27⟩, -, X27, ⟨Lc27, hQ27, l27, y27, z27⟩, st27⟩ := X19.virtualBack hx (y := (⟨"com/example/indenture/indenture/status/ContractStatus", "canMoveTo", "(Lcom/example/indenture/indenture/status/ContractStatus;)Z"⟩ : MethodName)) (z := (⟨"com/example/indenture/indenture/status/ContractStatus", "canMoveTo", "(Lcom/example/indenture/indenture/status/ContractStatus;)Z"⟩ : MethodName)) hown (mvT hZ (hw _ (List.mem_of_getElem? (i := 9) rfl))) (mvT hZ (hw _ (List.mem_of_getElem? (i := 10) rfl))) (notFace_of_selects (args := #[]) (mvT hZ (hw _ (List.mem_of_getElem? (i := 12) rfl)))) (mvT hZ (hw _ (List.mem_of_getElem? (i := 12) rfl))) (mvT hZ (hw _ (List.mem_of_getElem? (i := 11) rfl))) (by decide) (backOf (W := 0) (rm2 l Z a0 hw [] w_PENDING w_ACTIVE w_PENDING w_ACTIVE h0 n0 Z0 (S_PENDING.ext O0.2) (S_ACTIVE.ext O0.2)) hZ (hw _ (List.mem_of_getElem? (i := 13) rfl)) (hw _ (List.mem_of_getElem? (i := 5) rfl)) (by decide) (by decide)) q27a q27c (g := (mkF m 48 #[.val (.int p1), .val (.int p2), .val (.int (p1 &&& (1 : Int32))), .val (.int (p2 &&& (1 : Int32))), .val (.ref w_PENDING), .val (.ref w_ACTIVE), .val (.int (0 : Int32))] [(.ref w_ACTIVE), (.ref w_PENDING)])) rfl (by rw [hml]; rfl) (Steps.refl _) (argsL := [(.ref w_ACTIVE)]) (rest := []) (lenOf pd_19 rfl) rfl (by show 2 * 0 + _ ≤ _; exact Nat.le_of_eq rfl) (hb hby at_48) (fun _ _ => ⟨rfl, e19, (by decide : 0 + 0 ≤ _), (by decide : 0 + 0 ≤ _)⟩)
        dsimp only [Pt.U, Pt.locs, Pt.cells, Pt.slots] at X27 l27 y27 z27 st27 hQ27
        subst l27 y27 z27
        obtain ⟨rfl, N27q, e27⟩ := hQ27
        have N28 := Fr.app N20 N27q
        have pre29 : ∀ t, Steps p.tables e below (T27.setTop (mkF m 53 #[.val (.int p1), .val (.int p2), .val (.int (p1 &&& (1 : Int32))), .val (.int (p2 &&& (1 : Int32))), .val (.ref w_PENDING), .val (.ref w_ACTIVE), .val (.int (0 : Int32))] [(.int (0 : Int32)), (.int (f2 w_PENDING w_ACTIVE w_PENDING w_ACTIVE))])) t → Steps p.tables e below (s₁.setTop (entryFrame m #[(.int p1), (.int p2)] maxLocals)) t := fun t k => pre21 t (by
          show Steps p.tables e below (T19.setTop (mkF m 26 #[.val (.int p1), .val (.int p2), .val (.int (p1 &&& (1 : Int32))), .val (.int (p2 &&& (1 : Int32))), .val (.ref w_PENDING), .val (.ref w_ACTIVE), .unset] [(.int (1 : Int32)), (.int (p2 &&& (1 : Int32)))])) _
          refine XS.icmpYes X19.here hx rfl (pc0 := 26) (pc' := 35) rfl (hb hby at_26) rfl (feq hc22).2 (by decide) (by decide) ?_
          show Steps p.tables e below (T19.setTop (mkF m 35 #[.val (.int p1), .val (.int p2), .val (.int (p1 &&& (1 : Int32))), .val (.int (p2 &&& (1 : Int32))), .val (.ref w_PENDING), .val (.ref w_ACTIVE), .unset] [])) _
          refine XS.iconst X19.here hx rfl (hb hby at_35) ?_
          show Steps p.tables e below (T19.setTop (mkF m 36 #[.val (.int p1), .val (.int p2), .val (.int (p1 &&& (1 : Int32))), .val (.int (p2 &&& (1 : Int32))), .val (.ref w_PENDING), .val (.ref w_ACTIVE), .unset] [(.int (0 : Int32))])) _
          refine XS.istore X19.here hx rfl (hb hby at_36) rfl (l' := #[.val (.int p1), .val (.int p2), .val (.int (p1 &&& (1 : Int32))), .val (.int (p2 &&& (1 : Int32))), .val (.ref w_PENDING), .val (.ref w_ACTIVE), .val (.int (0 : Int32))]) rfl ?_
          show Steps p.tables e below (T19.setTop (mkF m 38 #[.val (.int p1), .val (.int p2), .val (.int (p1 &&& (1 : Int32))), .val (.int (p2 &&& (1 : Int32))), .val (.ref w_PENDING), .val (.ref w_ACTIVE), .val (.int (0 : Int32))] [])) _
          refine XS.goto X19.here hx rfl (pc0 := 38) (pc' := 44) rfl (hb hby at_38) (by decide) (by decide) ?_
          show Steps p.tables e below (T19.setTop (mkF m 44 #[.val (.int p1), .val (.int p2), .val (.int (p1 &&& (1 : Int32))), .val (.int (p2 &&& (1 : Int32))), .val (.ref w_PENDING), .val (.ref w_ACTIVE), .val (.int (0 : Int32))] [])) _
          refine XS.aload X19.here hx rfl (hb hby at_44) rfl rfl ?_
          show Steps p.tables e below (T19.setTop (mkF m 46 #[.val (.int p1), .val (.int p2), .val (.int (p1 &&& (1 : Int32))), .val (.int (p2 &&& (1 : Int32))), .val (.ref w_PENDING), .val (.ref w_ACTIVE), .val (.int (0 : Int32))] [(.ref w_PENDING)])) _
          refine XS.aload X19.here hx rfl (hb hby at_46) rfl rfl ?_
          show Steps p.tables e below (T19.setTop (mkF m 48 #[.val (.int p1), .val (.int p2), .val (.int (p1 &&& (1 : Int32))), .val (.int (p2 &&& (1 : Int32))), .val (.ref w_PENDING), .val (.ref w_ACTIVE), .val (.int (0 : Int32))] [(.ref w_ACTIVE), (.ref w_PENDING)])) _
          refine st27.trans ?_
          show Steps p.tables e below (T27.setTop (mkF m 51 #[.val (.int p1), .val (.int p2), .val (.int (p1 &&& (1 : Int32))), .val (.int (p2 &&& (1 : Int32))), .val (.ref w_PENDING), .val (.ref w_ACTIVE), .val (.int (0 : Int32))] [(.int (f2 w_PENDING w_ACTIVE w_PENDING w_ACTIVE))])) _
          refine XS.iload X27.here hx rfl (hb hby at_51) rfl ?_
          exact k)
        by_cases hc30 : (f2 w_PENDING w_ACTIVE w_PENDING w_ACTIVE) = (0 : Int32)
        ·  -- pc 53: (f2 w_PENDING w_ACTIVE w_PENDING w_ACTIVE) = (0 : Int32)
          obtain ⟨fs, hr, hrun, hended, hW, hsame⟩ := X27.leave (v := some (.int (1 : Int32))) (fun h => by rw [Bd.returns] at h; cases h)
          refine ⟨_, _, pre29 _ ?_, hrun, hended, _, _, rfl, ?_, ⟨_, rfl⟩, hW, hsame.mono (by decide) (by decide)⟩
          · show Steps p.tables e below (T27.setTop (mkF m 53 #[.val (.int p1), .val (.int p2), .val (.int (p1 &&& (1 : Int32))), .val (.int (p2 &&& (1 : Int32))), .val (.ref w_PENDING), .val (.ref w_ACTIVE), .val (.int (0 : Int32))] [(.int (0 : Int32)), (.int (f2 w_PENDING w_ACTIVE w_PENDING w_ACTIVE))])) _
            refine XS.icmpNo X27.here hx rfl (hb hby at_53) rfl (teq hc30).2 ?_
            show Steps p.tables e below (T27.setTop (mkF m 56 #[.val (.int p1), .val (.int p2), .val (.int (p1 &&& (1 : Int32))), .val (.int (p2 &&& (1 : Int32))), .val (.ref w_PENDING), .val (.ref w_ACTIVE), .val (.int (0 : Int32))] [])) _
            refine XS.iconst X27.here hx rfl (hb hby at_56) ?_
            show Steps p.tables e below (T27.setTop (mkF m 57 #[.val (.int p1), .val (.int p2), .val (.int (p1 &&& (1 : Int32))), .val (.int (p2 &&& (1 : Int32))), .val (.ref w_PENDING), .val (.ref w_ACTIVE), .val (.int (0 : Int32))] [(.int (1 : Int32))])) _
            refine XS.goto X27.here hx rfl (pc0 := 57) (pc' := 61) rfl (hb hby at_57) (by decide) (by decide) ?_
            show Steps p.tables e below (T27.setTop (mkF m 61 #[.val (.int p1), .val (.int p2), .val (.int (p1 &&& (1 : Int32))), .val (.int (p2 &&& (1 : Int32))), .val (.ref w_PENDING), .val (.ref w_ACTIVE), .val (.int (0 : Int32))] [(.int (1 : Int32))])) _
            exact retN X27 hx (t := .boolean) Bd.returns (by simp) (hb hby at_61) hr
          · show Q0 Z p1 p2 w_PENDING w_ACTIVE h0 n0 _ T27.heap _
            rw [e27]
            exact ⟨(by unfold f0; rw [if_pos hc2, if_neg hc6, if_neg hc22, if_pos hc30]), N28⟩
        ·  -- pc 53: not (f2 w_PENDING w_ACTIVE w_PENDING w_ACTIVE) = (0 : Int32)
          obtain ⟨fs, hr, hrun, hended, hW, hsame⟩ := X27.leave (v := some (.int (0 : Int32))) (fun h => by rw [Bd.returns] at h; cases h)
          refine ⟨_, _, pre29 _ ?_, hrun, hended, _, _, rfl, ?_, ⟨_, rfl⟩, hW, hsame.mono (by decide) (by decide)⟩
          · show Steps p.tables e below (T27.setTop (mkF m 53 #[.val (.int p1), .val (.int p2), .val (.int (p1 &&& (1 : Int32))), .val (.int (p2 &&& (1 : Int32))), .val (.ref w_PENDING), .val (.ref w_ACTIVE), .val (.int (0 : Int32))] [(.int (0 : Int32)), (.int (f2 w_PENDING w_ACTIVE w_PENDING w_ACTIVE))])) _
            refine XS.icmpYes X27.here hx rfl (pc0 := 53) (pc' := 60) rfl (hb hby at_53) rfl (feq hc30).2 (by decide) (by decide) ?_
            show Steps p.tables e below (T27.setTop (mkF m 60 #[.val (.int p1), .val (.int p2), .val (.int (p1 &&& (1 : Int32))), .val (.int (p2 &&& (1 : Int32))), .val (.ref w_PENDING), .val (.ref w_ACTIVE), .val (.int (0 : Int32))] [])) _
            refine XS.iconst X27.here hx rfl (hb hby at_60) ?_
            show Steps p.tables e below (T27.setTop (mkF m 61 #[.val (.int p1), .val (.int p2), .val (.int (p1 &&& (1 : Int32))), .val (.int (p2 &&& (1 : Int32))), .val (.ref w_PENDING), .val (.ref w_ACTIVE), .val (.int (0 : Int32))] [(.int (0 : Int32))])) _
            exact retN X27 hx (t := .boolean) Bd.returns (by simp) (hb hby at_61) hr
          · show Q0 Z p1 p2 w_PENDING w_ACTIVE h0 n0 _ T27.heap _
            rw [e27]
            exact ⟨(by unfold f0; rw [if_pos hc2, if_neg hc6, if_neg hc22, if_neg hc30]), N28⟩
  ·  -- pc ('own', 9): not (p1 &&& (1 : Int32)) = (0 : Int32)
    -- pc 9: ContractStatusCanMoveToPinLaw.pick by rm1b
    obtain ⟨_, _, ⟨T31, L31, k31, n31⟩, -, X31, ⟨Lc31, hQ31, l31, y31, z31⟩, st31⟩ := Jvm.LawKit.callS X0 hx (y := (⟨"com/example/indenture/indenture/status/ContractStatusCanMoveToPinLaw", "pick", "(I)Lcom/example/indenture/indenture/status/ContractStatus;"⟩ : MethodName)) hown (mvT hZ (hw _ (List.mem_of_getElem? (i := 0) rfl))) (mvT hZ (hw _ (List.mem_of_getElem? (i := 1) rfl))) (mvT hZ (hw _ (List.mem_of_getElem? (i := 2) rfl))) (mvT hZ (hw _ (List.mem_of_getElem? (i := 3) rfl))) (by decide) (backOf (W := 0) (rm1b l Z a0 hw [] (p1 &&& (1 : Int32)) w_ACTIVE h0 n0 Z0 (S_ACTIVE.ext O0.2) hc2) hZ (hw _ (List.mem_of_getElem? (i := 3) rfl)) (hw _ (List.mem_of_getElem? (i := 2) rfl)) (by decide) (by decide)) (g := (mkF m 9 #[.val (.int p1), .val (.int p2), .val (.int (p1 &&& (1 : Int32))), .val (.int (p2 &&& (1 : Int32))), .unset, .unset, .unset] [(.int (p1 &&& (1 : Int32)))])) rfl (by rw [hml]; rfl) (argsL := [(.int (p1 &&& (1 : Int32)))]) (rest := []) (lenOf pd_18 rfl) rfl (by show 2 * 0 + _ ≤ _; exact Nat.le_of_eq rfl) (hb hby at_9) (fun _ _ => ⟨rfl, e0, (by decide : 0 + 0 ≤ _), (by decide : 0 + 0 ≤ _)⟩)
    dsimp only [Pt.U, Pt.locs, Pt.cells, Pt.slots] at X31 l31 y31 z31 st31 hQ31
    subst l31 y31 z31
    obtain ⟨rfl, N31q, e31⟩ := hQ31
    have N32 := Fr.app N0 N31q
    have pre33 : ∀ t, Steps p.tables e below (T31.setTop (mkF m 15 #[.val (.int p1), .val (.int p2), .val (.int (p1 &&& (1 : Int32))), .val (.int (p2 &&& (1 : Int32))), .val (.ref w_ACTIVE), .unset, .unset] [(.int (p2 &&& (1 : Int32)))])) t → Steps p.tables e below (s₁.setTop (entryFrame m #[(.int p1), (.int p2)] maxLocals)) t := fun t k => pre1 t (by
      show Steps p.tables e below (s₁.setTop (mkF m 9 #[.val (.int p1), .val (.int p2), .val (.int (p1 &&& (1 : Int32))), .val (.int (p2 &&& (1 : Int32))), .unset, .unset, .unset] [(.int (p1 &&& (1 : Int32)))])) _
      refine st31 _ ?_
      show Steps p.tables e below (T31.setTop (mkF m 12 #[.val (.int p1), .val (.int p2), .val (.int (p1 &&& (1 : Int32))), .val (.int (p2 &&& (1 : Int32))), .unset, .unset, .unset] [(.ref w_ACTIVE)])) _
      refine XS.astore X31.here hx rfl (hb hby at_12) rfl rfl (l' := #[.val (.int p1), .val (.int p2), .val (.int (p1 &&& (1 : Int32))), .val (.int (p2 &&& (1 : Int32))), .val (.ref w_ACTIVE), .unset, .unset]) rfl ?_
      show Steps p.tables e below (T31.setTop (mkF m 14 #[.val (.int p1), .val (.int p2), .val (.int (p1 &&& (1 : Int32))), .val (.int (p2 &&& (1 : Int32))), .val (.ref w_ACTIVE), .unset, .unset] [])) _
      refine XS.iloadN X31.here hx rfl (hb hby at_14) rfl ?_
      exact k)
    by_cases hc34 : (p2 &&& (1 : Int32)) = (0 : Int32)
    ·  -- pc ('own', 15): (p2 &&& (1 : Int32)) = (0 : Int32)
      -- pc 15: ContractStatusCanMoveToPinLaw.pick by rm1a
      obtain ⟨_, _, ⟨T35, L35, k35, n35⟩, -, X35, ⟨Lc35, hQ35, l35, y35, z35⟩, st35⟩ := Jvm.LawKit.callS X31 hx (y := (⟨"com/example/indenture/indenture/status/ContractStatusCanMoveToPinLaw", "pick", "(I)Lcom/example/indenture/indenture/status/ContractStatus;"⟩ : MethodName)) hown (mvT hZ (hw _ (List.mem_of_getElem? (i := 0) rfl))) (mvT hZ (hw _ (List.mem_of_getElem? (i := 1) rfl))) (mvT hZ (hw _ (List.mem_of_getElem? (i := 2) rfl))) (mvT hZ (hw _ (List.mem_of_getElem? (i := 3) rfl))) (by decide) (backOf (W := 0) (rm1a l Z a0 hw [] (p2 &&& (1 : Int32)) w_PENDING h0 n0 Z0 (S_PENDING.ext O0.2) hc34) hZ (hw _ (List.mem_of_getElem? (i := 3) rfl)) (hw _ (List.mem_of_getElem? (i := 2) rfl)) (by decide) (by decide)) (g := (mkF m 15 #[.val (.int p1), .val (.int p2), .val (.int (p1 &&& (1 : Int32))), .val (.int (p2 &&& (1 : Int32))), .val (.ref w_ACTIVE), .unset, .unset] [(.int (p2 &&& (1 : Int32)))])) rfl (by rw [hml]; rfl) (argsL := [(.int (p2 &&& (1 : Int32)))]) (rest := []) (lenOf pd_18 rfl) rfl (by show 2 * 0 + _ ≤ _; exact Nat.le_of_eq rfl) (hb hby at_15) (fun _ _ => ⟨rfl, e31, (by decide : 0 + 0 ≤ _), (by decide : 0 + 0 ≤ _)⟩)
      dsimp only [Pt.U, Pt.locs, Pt.cells, Pt.slots] at X35 l35 y35 z35 st35 hQ35
      subst l35 y35 z35
      obtain ⟨rfl, N35q, e35⟩ := hQ35
      have N36 := Fr.app N32 N35q
      -- pc 48: ContractStatus.canMoveTo by rm2
      obtain ⟨cq37, kq37, q37a, q37b, q37c⟩ := isOf hZ e35 (E_w_ACTIVE.ext O0.2)
      obtain ⟨_, _, ⟨T37, L37, k37, n37⟩, -, X37, ⟨Lc37, hQ37, l37, y37, z37⟩, st37⟩ := X35.virtualBack hx (y := (⟨"com/example/indenture/indenture/status/ContractStatus", "canMoveTo", "(Lcom/example/indenture/indenture/status/ContractStatus;)Z"⟩ : MethodName)) (z := (⟨"com/example/indenture/indenture/status/ContractStatus", "canMoveTo", "(Lcom/example/indenture/indenture/status/ContractStatus;)Z"⟩ : MethodName)) hown (mvT hZ (hw _ (List.mem_of_getElem? (i := 9) rfl))) (mvT hZ (hw _ (List.mem_of_getElem? (i := 10) rfl))) (notFace_of_selects (args := #[]) (mvT hZ (hw _ (List.mem_of_getElem? (i := 12) rfl)))) (mvT hZ (hw _ (List.mem_of_getElem? (i := 12) rfl))) (mvT hZ (hw _ (List.mem_of_getElem? (i := 11) rfl))) (by decide) (backOf (W := 0) (rm2 l Z a0 hw [] w_ACTIVE w_PENDING w_PENDING w_ACTIVE h0 n0 Z0 (S_PENDING.ext O0.2) (S_ACTIVE.ext O0.2)) hZ (hw _ (List.mem_of_getElem? (i := 13) rfl)) (hw _ (List.mem_of_getElem? (i := 5) rfl)) (by decide) (by decide)) q37a q37c (g := (mkF m 48 #[.val (.int p1), .val (.int p2), .val (.int (p1 &&& (1 : Int32))), .val (.int (p2 &&& (1 : Int32))), .val (.ref w_ACTIVE), .val (.ref w_PENDING), .val (.int (0 : Int32))] [(.ref w_PENDING), (.ref w_ACTIVE)])) rfl (by rw [hml]; rfl) (Steps.refl _) (argsL := [(.ref w_PENDING)]) (rest := []) (lenOf pd_19 rfl) rfl (by show 2 * 0 + _ ≤ _; exact Nat.le_of_eq rfl) (hb hby at_48) (fun _ _ => ⟨rfl, e35, (by decide : 0 + 0 ≤ _), (by decide : 0 + 0 ≤ _)⟩)
      dsimp only [Pt.U, Pt.locs, Pt.cells, Pt.slots] at X37 l37 y37 z37 st37 hQ37
      subst l37 y37 z37
      obtain ⟨rfl, N37q, e37⟩ := hQ37
      have N38 := Fr.app N36 N37q
      have pre39 : ∀ t, Steps p.tables e below (T37.setTop (mkF m 53 #[.val (.int p1), .val (.int p2), .val (.int (p1 &&& (1 : Int32))), .val (.int (p2 &&& (1 : Int32))), .val (.ref w_ACTIVE), .val (.ref w_PENDING), .val (.int (0 : Int32))] [(.int (0 : Int32)), (.int (f2 w_ACTIVE w_PENDING w_PENDING w_ACTIVE))])) t → Steps p.tables e below (s₁.setTop (entryFrame m #[(.int p1), (.int p2)] maxLocals)) t := fun t k => pre33 t (by
        show Steps p.tables e below (T31.setTop (mkF m 15 #[.val (.int p1), .val (.int p2), .val (.int (p1 &&& (1 : Int32))), .val (.int (p2 &&& (1 : Int32))), .val (.ref w_ACTIVE), .unset, .unset] [(.int (p2 &&& (1 : Int32)))])) _
        refine st35 _ ?_
        show Steps p.tables e below (T35.setTop (mkF m 18 #[.val (.int p1), .val (.int p2), .val (.int (p1 &&& (1 : Int32))), .val (.int (p2 &&& (1 : Int32))), .val (.ref w_ACTIVE), .unset, .unset] [(.ref w_PENDING)])) _
        refine XS.astore X35.here hx rfl (hb hby at_18) rfl rfl (l' := #[.val (.int p1), .val (.int p2), .val (.int (p1 &&& (1 : Int32))), .val (.int (p2 &&& (1 : Int32))), .val (.ref w_ACTIVE), .val (.ref w_PENDING), .unset]) rfl ?_
        show Steps p.tables e below (T35.setTop (mkF m 20 #[.val (.int p1), .val (.int p2), .val (.int (p1 &&& (1 : Int32))), .val (.int (p2 &&& (1 : Int32))), .val (.ref w_ACTIVE), .val (.ref w_PENDING), .unset] [])) _
        refine XS.iloadN X35.here hx rfl (hb hby at_20) rfl ?_
        show Steps p.tables e below (T35.setTop (mkF m 21 #[.val (.int p1), .val (.int p2), .val (.int (p1 &&& (1 : Int32))), .val (.int (p2 &&& (1 : Int32))), .val (.ref w_ACTIVE), .val (.ref w_PENDING), .unset] [(.int (p1 &&& (1 : Int32)))])) _
        refine XS.ifYes X35.here hx rfl (pc0 := 21) (pc' := 41) rfl (hb hby at_21) rfl ((if0 _ _).trans (feq hc2).2) (by decide) (by decide) ?_
        show Steps p.tables e below (T35.setTop (mkF m 41 #[.val (.int p1), .val (.int p2), .val (.int (p1 &&& (1 : Int32))), .val (.int (p2 &&& (1 : Int32))), .val (.ref w_ACTIVE), .val (.ref w_PENDING), .unset] [])) _
        refine XS.iconst X35.here hx rfl (hb hby at_41) ?_
        show Steps p.tables e below (T35.setTop (mkF m 42 #[.val (.int p1), .val (.int p2), .val (.int (p1 &&& (1 : Int32))), .val (.int (p2 &&& (1 : Int32))), .val (.ref w_ACTIVE), .val (.ref w_PENDING), .unset] [(.int (0 : Int32))])) _
        refine XS.istore X35.here hx rfl (hb hby at_42) rfl (l' := #[.val (.int p1), .val (.int p2), .val (.int (p1 &&& (1 : Int32))), .val (.int (p2 &&& (1 : Int32))), .val (.ref w_ACTIVE), .val (.ref w_PENDING), .val (.int (0 : Int32))]) rfl ?_
        show Steps p.tables e below (T35.setTop (mkF m 44 #[.val (.int p1), .val (.int p2), .val (.int (p1 &&& (1 : Int32))), .val (.int (p2 &&& (1 : Int32))), .val (.ref w_ACTIVE), .val (.ref w_PENDING), .val (.int (0 : Int32))] [])) _
        refine XS.aload X35.here hx rfl (hb hby at_44) rfl rfl ?_
        show Steps p.tables e below (T35.setTop (mkF m 46 #[.val (.int p1), .val (.int p2), .val (.int (p1 &&& (1 : Int32))), .val (.int (p2 &&& (1 : Int32))), .val (.ref w_ACTIVE), .val (.ref w_PENDING), .val (.int (0 : Int32))] [(.ref w_ACTIVE)])) _
        refine XS.aload X35.here hx rfl (hb hby at_46) rfl rfl ?_
        show Steps p.tables e below (T35.setTop (mkF m 48 #[.val (.int p1), .val (.int p2), .val (.int (p1 &&& (1 : Int32))), .val (.int (p2 &&& (1 : Int32))), .val (.ref w_ACTIVE), .val (.ref w_PENDING), .val (.int (0 : Int32))] [(.ref w_PENDING), (.ref w_ACTIVE)])) _
        refine st37.trans ?_
        show Steps p.tables e below (T37.setTop (mkF m 51 #[.val (.int p1), .val (.int p2), .val (.int (p1 &&& (1 : Int32))), .val (.int (p2 &&& (1 : Int32))), .val (.ref w_ACTIVE), .val (.ref w_PENDING), .val (.int (0 : Int32))] [(.int (f2 w_ACTIVE w_PENDING w_PENDING w_ACTIVE))])) _
        refine XS.iload X37.here hx rfl (hb hby at_51) rfl ?_
        exact k)
      by_cases hc40 : (f2 w_ACTIVE w_PENDING w_PENDING w_ACTIVE) = (0 : Int32)
      ·  -- pc 53: (f2 w_ACTIVE w_PENDING w_PENDING w_ACTIVE) = (0 : Int32)
        obtain ⟨fs, hr, hrun, hended, hW, hsame⟩ := X37.leave (v := some (.int (1 : Int32))) (fun h => by rw [Bd.returns] at h; cases h)
        refine ⟨_, _, pre39 _ ?_, hrun, hended, _, _, rfl, ?_, ⟨_, rfl⟩, hW, hsame.mono (by decide) (by decide)⟩
        · show Steps p.tables e below (T37.setTop (mkF m 53 #[.val (.int p1), .val (.int p2), .val (.int (p1 &&& (1 : Int32))), .val (.int (p2 &&& (1 : Int32))), .val (.ref w_ACTIVE), .val (.ref w_PENDING), .val (.int (0 : Int32))] [(.int (0 : Int32)), (.int (f2 w_ACTIVE w_PENDING w_PENDING w_ACTIVE))])) _
          refine XS.icmpNo X37.here hx rfl (hb hby at_53) rfl (teq hc40).2 ?_
          show Steps p.tables e below (T37.setTop (mkF m 56 #[.val (.int p1), .val (.int p2), .val (.int (p1 &&& (1 : Int32))), .val (.int (p2 &&& (1 : Int32))), .val (.ref w_ACTIVE), .val (.ref w_PENDING), .val (.int (0 : Int32))] [])) _
          refine XS.iconst X37.here hx rfl (hb hby at_56) ?_
          show Steps p.tables e below (T37.setTop (mkF m 57 #[.val (.int p1), .val (.int p2), .val (.int (p1 &&& (1 : Int32))), .val (.int (p2 &&& (1 : Int32))), .val (.ref w_ACTIVE), .val (.ref w_PENDING), .val (.int (0 : Int32))] [(.int (1 : Int32))])) _
          refine XS.goto X37.here hx rfl (pc0 := 57) (pc' := 61) rfl (hb hby at_57) (by decide) (by decide) ?_
          show Steps p.tables e below (T37.setTop (mkF m 61 #[.val (.int p1), .val (.int p2), .val (.int (p1 &&& (1 : Int32))), .val (.int (p2 &&& (1 : Int32))), .val (.ref w_ACTIVE), .val (.ref w_PENDING), .val (.int (0 : Int32))] [(.int (1 : Int32))])) _
          exact retN X37 hx (t := .boolean) Bd.returns (by simp) (hb hby at_61) hr
        · show Q0 Z p1 p2 w_PENDING w_ACTIVE h0 n0 _ T37.heap _
          rw [e37]
          exact ⟨(by unfold f0; rw [if_neg hc2, if_pos hc34, if_pos hc40]), N38⟩
      ·  -- pc 53: not (f2 w_ACTIVE w_PENDING w_PENDING w_ACTIVE) = (0 : Int32)
        obtain ⟨fs, hr, hrun, hended, hW, hsame⟩ := X37.leave (v := some (.int (0 : Int32))) (fun h => by rw [Bd.returns] at h; cases h)
        refine ⟨_, _, pre39 _ ?_, hrun, hended, _, _, rfl, ?_, ⟨_, rfl⟩, hW, hsame.mono (by decide) (by decide)⟩
        · show Steps p.tables e below (T37.setTop (mkF m 53 #[.val (.int p1), .val (.int p2), .val (.int (p1 &&& (1 : Int32))), .val (.int (p2 &&& (1 : Int32))), .val (.ref w_ACTIVE), .val (.ref w_PENDING), .val (.int (0 : Int32))] [(.int (0 : Int32)), (.int (f2 w_ACTIVE w_PENDING w_PENDING w_ACTIVE))])) _
          refine XS.icmpYes X37.here hx rfl (pc0 := 53) (pc' := 60) rfl (hb hby at_53) rfl (feq hc40).2 (by decide) (by decide) ?_
          show Steps p.tables e below (T37.setTop (mkF m 60 #[.val (.int p1), .val (.int p2), .val (.int (p1 &&& (1 : Int32))), .val (.int (p2 &&& (1 : Int32))), .val (.ref w_ACTIVE), .val (.ref w_PENDING), .val (.int (0 : Int32))] [])) _
          refine XS.iconst X37.here hx rfl (hb hby at_60) ?_
          show Steps p.tables e below (T37.setTop (mkF m 61 #[.val (.int p1), .val (.int p2), .val (.int (p1 &&& (1 : Int32))), .val (.int (p2 &&& (1 : Int32))), .val (.ref w_ACTIVE), .val (.ref w_PENDING), .val (.int (0 : Int32))] [(.int (0 : Int32))])) _
          exact retN X37 hx (t := .boolean) Bd.returns (by simp) (hb hby at_61) hr
        · show Q0 Z p1 p2 w_PENDING w_ACTIVE h0 n0 _ T37.heap _
          rw [e37]
          exact ⟨(by unfold f0; rw [if_neg hc2, if_pos hc34, if_neg hc40]), N38⟩
    ·  -- pc ('own', 15): not (p2 &&& (1 : Int32)) = (0 : Int32)
      -- pc 15: ContractStatusCanMoveToPinLaw.pick by rm1b
      obtain ⟨_, _, ⟨T41, L41, k41, n41⟩, -, X41, ⟨Lc41, hQ41, l41, y41, z41⟩, st41⟩ := Jvm.LawKit.callS X31 hx (y := (⟨"com/example/indenture/indenture/status/ContractStatusCanMoveToPinLaw", "pick", "(I)Lcom/example/indenture/indenture/status/ContractStatus;"⟩ : MethodName)) hown (mvT hZ (hw _ (List.mem_of_getElem? (i := 0) rfl))) (mvT hZ (hw _ (List.mem_of_getElem? (i := 1) rfl))) (mvT hZ (hw _ (List.mem_of_getElem? (i := 2) rfl))) (mvT hZ (hw _ (List.mem_of_getElem? (i := 3) rfl))) (by decide) (backOf (W := 0) (rm1b l Z a0 hw [] (p2 &&& (1 : Int32)) w_ACTIVE h0 n0 Z0 (S_ACTIVE.ext O0.2) hc34) hZ (hw _ (List.mem_of_getElem? (i := 3) rfl)) (hw _ (List.mem_of_getElem? (i := 2) rfl)) (by decide) (by decide)) (g := (mkF m 15 #[.val (.int p1), .val (.int p2), .val (.int (p1 &&& (1 : Int32))), .val (.int (p2 &&& (1 : Int32))), .val (.ref w_ACTIVE), .unset, .unset] [(.int (p2 &&& (1 : Int32)))])) rfl (by rw [hml]; rfl) (argsL := [(.int (p2 &&& (1 : Int32)))]) (rest := []) (lenOf pd_18 rfl) rfl (by show 2 * 0 + _ ≤ _; exact Nat.le_of_eq rfl) (hb hby at_15) (fun _ _ => ⟨rfl, e31, (by decide : 0 + 0 ≤ _), (by decide : 0 + 0 ≤ _)⟩)
      dsimp only [Pt.U, Pt.locs, Pt.cells, Pt.slots] at X41 l41 y41 z41 st41 hQ41
      subst l41 y41 z41
      obtain ⟨rfl, N41q, e41⟩ := hQ41
      have N42 := Fr.app N32 N41q
      -- pc 48: ContractStatus.canMoveTo by rm2
      obtain ⟨cq43, kq43, q43a, q43b, q43c⟩ := isOf hZ e41 (E_w_ACTIVE.ext O0.2)
      obtain ⟨_, _, ⟨T43, L43, k43, n43⟩, -, X43, ⟨Lc43, hQ43, l43, y43, z43⟩, st43⟩ := X41.virtualBack hx (y := (⟨"com/example/indenture/indenture/status/ContractStatus", "canMoveTo", "(Lcom/example/indenture/indenture/status/ContractStatus;)Z"⟩ : MethodName)) (z := (⟨"com/example/indenture/indenture/status/ContractStatus", "canMoveTo", "(Lcom/example/indenture/indenture/status/ContractStatus;)Z"⟩ : MethodName)) hown (mvT hZ (hw _ (List.mem_of_getElem? (i := 9) rfl))) (mvT hZ (hw _ (List.mem_of_getElem? (i := 10) rfl))) (notFace_of_selects (args := #[]) (mvT hZ (hw _ (List.mem_of_getElem? (i := 12) rfl)))) (mvT hZ (hw _ (List.mem_of_getElem? (i := 12) rfl))) (mvT hZ (hw _ (List.mem_of_getElem? (i := 11) rfl))) (by decide) (backOf (W := 0) (rm2 l Z a0 hw [] w_ACTIVE w_ACTIVE w_PENDING w_ACTIVE h0 n0 Z0 (S_PENDING.ext O0.2) (S_ACTIVE.ext O0.2)) hZ (hw _ (List.mem_of_getElem? (i := 13) rfl)) (hw _ (List.mem_of_getElem? (i := 5) rfl)) (by decide) (by decide)) q43a q43c (g := (mkF m 48 #[.val (.int p1), .val (.int p2), .val (.int (p1 &&& (1 : Int32))), .val (.int (p2 &&& (1 : Int32))), .val (.ref w_ACTIVE), .val (.ref w_ACTIVE), .val (.int (0 : Int32))] [(.ref w_ACTIVE), (.ref w_ACTIVE)])) rfl (by rw [hml]; rfl) (Steps.refl _) (argsL := [(.ref w_ACTIVE)]) (rest := []) (lenOf pd_19 rfl) rfl (by show 2 * 0 + _ ≤ _; exact Nat.le_of_eq rfl) (hb hby at_48) (fun _ _ => ⟨rfl, e41, (by decide : 0 + 0 ≤ _), (by decide : 0 + 0 ≤ _)⟩)
      dsimp only [Pt.U, Pt.locs, Pt.cells, Pt.slots] at X43 l43 y43 z43 st43 hQ43
      subst l43 y43 z43
      obtain ⟨rfl, N43q, e43⟩ := hQ43
      have N44 := Fr.app N42 N43q
      have pre45 : ∀ t, Steps p.tables e below (T43.setTop (mkF m 53 #[.val (.int p1), .val (.int p2), .val (.int (p1 &&& (1 : Int32))), .val (.int (p2 &&& (1 : Int32))), .val (.ref w_ACTIVE), .val (.ref w_ACTIVE), .val (.int (0 : Int32))] [(.int (0 : Int32)), (.int (f2 w_ACTIVE w_ACTIVE w_PENDING w_ACTIVE))])) t → Steps p.tables e below (s₁.setTop (entryFrame m #[(.int p1), (.int p2)] maxLocals)) t := fun t k => pre33 t (by
        show Steps p.tables e below (T31.setTop (mkF m 15 #[.val (.int p1), .val (.int p2), .val (.int (p1 &&& (1 : Int32))), .val (.int (p2 &&& (1 : Int32))), .val (.ref w_ACTIVE), .unset, .unset] [(.int (p2 &&& (1 : Int32)))])) _
        refine st41 _ ?_
        show Steps p.tables e below (T41.setTop (mkF m 18 #[.val (.int p1), .val (.int p2), .val (.int (p1 &&& (1 : Int32))), .val (.int (p2 &&& (1 : Int32))), .val (.ref w_ACTIVE), .unset, .unset] [(.ref w_ACTIVE)])) _
        refine XS.astore X41.here hx rfl (hb hby at_18) rfl rfl (l' := #[.val (.int p1), .val (.int p2), .val (.int (p1 &&& (1 : Int32))), .val (.int (p2 &&& (1 : Int32))), .val (.ref w_ACTIVE), .val (.ref w_ACTIVE), .unset]) rfl ?_
        show Steps p.tables e below (T41.setTop (mkF m 20 #[.val (.int p1), .val (.int p2), .val (.int (p1 &&& (1 : Int32))), .val (.int (p2 &&& (1 : Int32))), .val (.ref w_ACTIVE), .val (.ref w_ACTIVE), .unset] [])) _
        refine XS.iloadN X41.here hx rfl (hb hby at_20) rfl ?_
        show Steps p.tables e below (T41.setTop (mkF m 21 #[.val (.int p1), .val (.int p2), .val (.int (p1 &&& (1 : Int32))), .val (.int (p2 &&& (1 : Int32))), .val (.ref w_ACTIVE), .val (.ref w_ACTIVE), .unset] [(.int (p1 &&& (1 : Int32)))])) _
        refine XS.ifYes X41.here hx rfl (pc0 := 21) (pc' := 41) rfl (hb hby at_21) rfl ((if0 _ _).trans (feq hc2).2) (by decide) (by decide) ?_
        show Steps p.tables e below (T41.setTop (mkF m 41 #[.val (.int p1), .val (.int p2), .val (.int (p1 &&& (1 : Int32))), .val (.int (p2 &&& (1 : Int32))), .val (.ref w_ACTIVE), .val (.ref w_ACTIVE), .unset] [])) _
        refine XS.iconst X41.here hx rfl (hb hby at_41) ?_
        show Steps p.tables e below (T41.setTop (mkF m 42 #[.val (.int p1), .val (.int p2), .val (.int (p1 &&& (1 : Int32))), .val (.int (p2 &&& (1 : Int32))), .val (.ref w_ACTIVE), .val (.ref w_ACTIVE), .unset] [(.int (0 : Int32))])) _
        refine XS.istore X41.here hx rfl (hb hby at_42) rfl (l' := #[.val (.int p1), .val (.int p2), .val (.int (p1 &&& (1 : Int32))), .val (.int (p2 &&& (1 : Int32))), .val (.ref w_ACTIVE), .val (.ref w_ACTIVE), .val (.int (0 : Int32))]) rfl ?_
        show Steps p.tables e below (T41.setTop (mkF m 44 #[.val (.int p1), .val (.int p2), .val (.int (p1 &&& (1 : Int32))), .val (.int (p2 &&& (1 : Int32))), .val (.ref w_ACTIVE), .val (.ref w_ACTIVE), .val (.int (0 : Int32))] [])) _
        refine XS.aload X41.here hx rfl (hb hby at_44) rfl rfl ?_
        show Steps p.tables e below (T41.setTop (mkF m 46 #[.val (.int p1), .val (.int p2), .val (.int (p1 &&& (1 : Int32))), .val (.int (p2 &&& (1 : Int32))), .val (.ref w_ACTIVE), .val (.ref w_ACTIVE), .val (.int (0 : Int32))] [(.ref w_ACTIVE)])) _
        refine XS.aload X41.here hx rfl (hb hby at_46) rfl rfl ?_
        show Steps p.tables e below (T41.setTop (mkF m 48 #[.val (.int p1), .val (.int p2), .val (.int (p1 &&& (1 : Int32))), .val (.int (p2 &&& (1 : Int32))), .val (.ref w_ACTIVE), .val (.ref w_ACTIVE), .val (.int (0 : Int32))] [(.ref w_ACTIVE), (.ref w_ACTIVE)])) _
        refine st43.trans ?_
        show Steps p.tables e below (T43.setTop (mkF m 51 #[.val (.int p1), .val (.int p2), .val (.int (p1 &&& (1 : Int32))), .val (.int (p2 &&& (1 : Int32))), .val (.ref w_ACTIVE), .val (.ref w_ACTIVE), .val (.int (0 : Int32))] [(.int (f2 w_ACTIVE w_ACTIVE w_PENDING w_ACTIVE))])) _
        refine XS.iload X43.here hx rfl (hb hby at_51) rfl ?_
        exact k)
      by_cases hc46 : (f2 w_ACTIVE w_ACTIVE w_PENDING w_ACTIVE) = (0 : Int32)
      ·  -- pc 53: (f2 w_ACTIVE w_ACTIVE w_PENDING w_ACTIVE) = (0 : Int32)
        obtain ⟨fs, hr, hrun, hended, hW, hsame⟩ := X43.leave (v := some (.int (1 : Int32))) (fun h => by rw [Bd.returns] at h; cases h)
        refine ⟨_, _, pre45 _ ?_, hrun, hended, _, _, rfl, ?_, ⟨_, rfl⟩, hW, hsame.mono (by decide) (by decide)⟩
        · show Steps p.tables e below (T43.setTop (mkF m 53 #[.val (.int p1), .val (.int p2), .val (.int (p1 &&& (1 : Int32))), .val (.int (p2 &&& (1 : Int32))), .val (.ref w_ACTIVE), .val (.ref w_ACTIVE), .val (.int (0 : Int32))] [(.int (0 : Int32)), (.int (f2 w_ACTIVE w_ACTIVE w_PENDING w_ACTIVE))])) _
          refine XS.icmpNo X43.here hx rfl (hb hby at_53) rfl (teq hc46).2 ?_
          show Steps p.tables e below (T43.setTop (mkF m 56 #[.val (.int p1), .val (.int p2), .val (.int (p1 &&& (1 : Int32))), .val (.int (p2 &&& (1 : Int32))), .val (.ref w_ACTIVE), .val (.ref w_ACTIVE), .val (.int (0 : Int32))] [])) _
          refine XS.iconst X43.here hx rfl (hb hby at_56) ?_
          show Steps p.tables e below (T43.setTop (mkF m 57 #[.val (.int p1), .val (.int p2), .val (.int (p1 &&& (1 : Int32))), .val (.int (p2 &&& (1 : Int32))), .val (.ref w_ACTIVE), .val (.ref w_ACTIVE), .val (.int (0 : Int32))] [(.int (1 : Int32))])) _
          refine XS.goto X43.here hx rfl (pc0 := 57) (pc' := 61) rfl (hb hby at_57) (by decide) (by decide) ?_
          show Steps p.tables e below (T43.setTop (mkF m 61 #[.val (.int p1), .val (.int p2), .val (.int (p1 &&& (1 : Int32))), .val (.int (p2 &&& (1 : Int32))), .val (.ref w_ACTIVE), .val (.ref w_ACTIVE), .val (.int (0 : Int32))] [(.int (1 : Int32))])) _
          exact retN X43 hx (t := .boolean) Bd.returns (by simp) (hb hby at_61) hr
        · show Q0 Z p1 p2 w_PENDING w_ACTIVE h0 n0 _ T43.heap _
          rw [e43]
          exact ⟨(by unfold f0; rw [if_neg hc2, if_neg hc34, if_pos hc46]), N44⟩
      ·  -- pc 53: not (f2 w_ACTIVE w_ACTIVE w_PENDING w_ACTIVE) = (0 : Int32)
        obtain ⟨fs, hr, hrun, hended, hW, hsame⟩ := X43.leave (v := some (.int (0 : Int32))) (fun h => by rw [Bd.returns] at h; cases h)
        refine ⟨_, _, pre45 _ ?_, hrun, hended, _, _, rfl, ?_, ⟨_, rfl⟩, hW, hsame.mono (by decide) (by decide)⟩
        · show Steps p.tables e below (T43.setTop (mkF m 53 #[.val (.int p1), .val (.int p2), .val (.int (p1 &&& (1 : Int32))), .val (.int (p2 &&& (1 : Int32))), .val (.ref w_ACTIVE), .val (.ref w_ACTIVE), .val (.int (0 : Int32))] [(.int (0 : Int32)), (.int (f2 w_ACTIVE w_ACTIVE w_PENDING w_ACTIVE))])) _
          refine XS.icmpYes X43.here hx rfl (pc0 := 53) (pc' := 60) rfl (hb hby at_53) rfl (feq hc46).2 (by decide) (by decide) ?_
          show Steps p.tables e below (T43.setTop (mkF m 60 #[.val (.int p1), .val (.int p2), .val (.int (p1 &&& (1 : Int32))), .val (.int (p2 &&& (1 : Int32))), .val (.ref w_ACTIVE), .val (.ref w_ACTIVE), .val (.int (0 : Int32))] [])) _
          refine XS.iconst X43.here hx rfl (hb hby at_60) ?_
          show Steps p.tables e below (T43.setTop (mkF m 61 #[.val (.int p1), .val (.int p2), .val (.int (p1 &&& (1 : Int32))), .val (.int (p2 &&& (1 : Int32))), .val (.ref w_ACTIVE), .val (.ref w_ACTIVE), .val (.int (0 : Int32))] [(.int (0 : Int32))])) _
          exact retN X43 hx (t := .boolean) Bd.returns (by simp) (hb hby at_61) hr
        · show Q0 Z p1 p2 w_PENDING w_ACTIVE h0 n0 _ T43.heap _
          rw [e43]
          exact ⟨(by unfold f0; rw [if_neg hc2, if_neg hc34, if_neg hc46]), N44⟩
theorem own_bit (p : Int32) (h : ¬ ((p &&& (1 : Int32)) = (0 : Int32))) : (p &&& (1 : Int32)) = (1 : Int32) := (and_one p).resolve_left h
theorem law_eq (p q : Int32) (a b : Addr) (n : a ≠ b) : f0 p q a b = 1 := by
  unfold f0 f2
  have n' := Ne.symm n
  have hq := own_bit q
  have hp := own_bit p
  repeat' split
  all_goals first | rfl | (exfalso; simp_all; done)
set_option maxRecDepth 65536 in
set_option maxHeartbeats 40000000 in
theorem comes_1 {Post : Tables → Env → Array Value → State → Outcome → State → Prop} (hpost : ∀ tb e args s v u, (limb_1_1.after args s (.returned v) u = true ∧ limb_1_2.after args s (.returned v) u = true ∧ True) → FrameEnd s (.returned v) u (Jvm.fieldLocs frame_1_writes args s ++ Jvm.arrayLocs frame_1_arrays args s ++ Jvm.staticLocs frame_1_statics s) 0 0 → Post tb e args s (.returned v) u) :
    ArmFor flags0 classFile x code maxLocals ret World_1 tables_1 room_1 Calls_1 rest_1 Pre_1 Post := by
  intro l hfl _ _ p e ha hc hk s m args below hf hA hF happ hP
  obtain ⟨hcalls, hrest, hpre⟩ := hP
  obtain ⟨-, -, -, hnamed, -, -, -, hat⟩ := (Spec.applies_iff hf).mp happ
  obtain ⟨hg, hn⟩ := and_e (Cond.before_iff.mp (show (Jvm.Cond.and given_1 narrow_1).before args s = true from hpre))
  obtain ⟨gv1, gv2⟩ := and_e hg
  obtain ⟨gv3, gv4⟩ := and_e gv2
  obtain ⟨gv5, gv6⟩ := and_e hn
  obtain ⟨gv7, gv8⟩ := and_e gv6
  obtain ⟨gv9, gv10⟩ := and_e gv8
  obtain ⟨w0, w1, rfl⟩ : ∃ w0 w1 : Value, args = #[w0, w1] := by
    have hs : args.size = 2 := by simpa [Cond.value, given_1] using gv1
    obtain ⟨L⟩ := args
    match L, hs with
    | [w0, w1], _ => exact ⟨w0, w1, rfl⟩
  have hw := fun d (hd : d ∈ tables_1) => atoms_spec (ws := Jvm.Cond.code x code maxLocals ret :: tables_1) hat d (List.mem_cons_of_mem _ hd)
  obtain ⟨i0, ei0⟩ := is_v gv3
  obtain rfl : w0 = (.int i0) := Option.some.inj ei0
  obtain ⟨i1, ei1⟩ := is_v gv4
  obtain rfl : w1 = (.int i1) := Option.some.inj ei1
  have O0 := Old.start s
  obtain ⟨w_PENDING, ev_PENDING⟩ := exa_v gv5
  have S_PENDING := Sta.start ev_PENDING (Or.inr ⟨(hw _ (List.mem_of_getElem? (i := 5) rfl)), (hw _ (List.mem_of_getElem? (i := 6) rfl))⟩)
  have E_w_PENDING := Exa.start ev_PENDING gv5
  obtain ⟨w_ACTIVE, ev_ACTIVE⟩ := exa_v gv7
  have S_ACTIVE := Sta.start ev_ACTIVE (Or.inr ⟨(hw _ (List.mem_of_getElem? (i := 5) rfl)), (hw _ (List.mem_of_getElem? (i := 8) rfl))⟩)
  have E_w_ACTIVE := Exa.start ev_ACTIVE gv7
  have F_ordinal_w_PENDING := own_feq ev_PENDING gv9
  have F_ordinal_w_ACTIVE := own_feq ev_ACTIVE gv10
  have ne_w_PENDING_w_ACTIVE := Fld.ne F_ordinal_w_PENDING F_ordinal_w_ACTIVE (by decide)
  obtain ⟨n, o, h1, h2, h3, _, L, rfl, ⟨rfl, N⟩, hq⟩ := rm0 l s _ hw tables_1 i0 i1 w_PENDING w_ACTIVE s.heap s.heap.size (Nat.le_refl _) O0 S_PENDING S_ACTIVE E_w_PENDING E_w_ACTIVE F_ordinal_w_PENDING F_ordinal_w_ACTIVE ne_w_PENDING_w_ACTIVE p e ha hc hk s m _ below hf ((Spec.applies_iff_loose hf).mp happ).1 ⟨rfl, State.Warmed39.refl s, rfl⟩ trivial
  refine ⟨n, _, h1, h2, h3, hpost _ _ _ _ _ _ ⟨Cond.after_iff.mpr rfl, Cond.after_iff.mpr (eq_i res_at (Term.int_eval (1)) (congrArg Value.int (law_eq i0 i1 w_PENDING w_ACTIVE ne_w_PENDING_w_ACTIVE))), trivial⟩ ⟨hq.1, hq.2.1, (hq.2.2.sift fun y hy => Or.inr (N y hy)).mono (by decide) (by decide)⟩⟩
theorem main_1_1 : Claimed_1_1 := comes_1 fun _ _ _ _ _ _ h hF => ⟨h.1, hF⟩
theorem main_1_2 : Claimed_1_2 := comes_1 fun _ _ _ _ _ _ h hF => ⟨h.2.1, hF⟩
end Jvm.Pilot.@@N@@
namespace Jvm.Pilot.@@N@@
open Jvm Jvm.ClassFile Sem Op Lib Jvm.Free Jvm.Stand Jvm.Pilot.@@N@@.Jvm.D
/-! MADE BY PROGRAM (witnessworld.py) out of the Statement's table words and the real class files: 13 classes; the members and pool entries that the words name. The judged class is class 1, her method 2. -/
namespace start1
open Jvm.ClassFile
def u (s : String) : CpInfo := .utf8 (stringToUtf16 s)
/-- a pool by its gaps: so many unusable entries, then the entry; so many at the end -/
def gap : Nat → List CpInfo → List CpInfo
  | 0, r => r
  | n + 1, r => .unusable :: gap n r
def poolList (es : List (Nat × CpInfo)) (last : Nat) : List CpInfo := es.foldr (fun e r => gap e.1 (e.2 :: r)) (gap last [])
def pool (es : List (Nat × CpInfo)) (last : Nat) : Array CpInfo := ⟨poolList es last⟩
def fileOf (pool : Array CpInfo) (this : Nat) (attrs : Array Attribute := #[]) (ms : Array MethodInfo := #[]) (fl : Nat := 33) (sup : Nat := 0) (ifs : Array Nat := #[]) (fds : Array FieldInfo := #[]) : ClassFile where
  minorVersion := 0
  majorVersion := 65
  constantPool := pool
  accessFlags := fl
  thisClass := this
  superClass := sup
  interfaces := ifs
  fields := fds
  methods := ms
  attributes := attrs
def plain (name : String) (sup : Option ClassId) : Class where
  name := name
  kind := .ordinary
  loader := none
  accessFlags := 33
  super := sup
  interfaces := #[]
  cf := none
  fields := #[]
  methods := #[]
  instanceTypes := #[]
  staticTypes := #[]
  resolved := #[]
  callSites := []
  init := .initialized
  statics := none
  mirror := none

def pool0 : Array CpInfo := pool [(5, u "<init>"), (0, u "()V"), (1, .class_ 10), (1, u "java/lang/Object")] 113

def k0m0 : Method := { name := "<init>", desc := "()V", sig := { parameters := [], returnType := none }, accessFlags := 1, code := none }
/-- java/lang/Object -/
def k0 : Class := { plain "java/lang/Object" none with
  accessFlags := 33
  interfaces := #[]
  cf := some (fileOf pool0 8 #[] #[{ accessFlags := 1, nameIndex := 5, descriptorIndex := 6, attributes := #[] }] 33 0 #[] #[])
  fields := #[]
  methods := #[k0m0]
  instanceTypes := #[]
  staticTypes := #[]
  resolved := Array.replicate 124 none
  statics := none }

def pool1 : Array CpInfo := pool [(2, .class_ 4), (1, u "java/lang/Object"), (0, u "<init>"), (0, u "()V"), (0, .fieldref 8 9), (0, .class_ 10), (0, .nameAndType 11 12), (0, u "com/example/indenture/indenture/status/ContractStatus"), (0, u "PENDING"), (0, u "Lcom/example/indenture/indenture/status/ContractStatus;"), (0, .fieldref 8 14), (0, .nameAndType 15 12), (0, u "ACTIVE"), (0, .methodref 17 18), (0, .class_ 19), (0, .nameAndType 20 21), (0, u "com/example/indenture/indenture/status/ContractStatusCanMoveToPinLaw"), (0, u "pick"), (0, u "(I)Lcom/example/indenture/indenture/status/ContractStatus;"), (0, .methodref 8 23), (0, .nameAndType 24 25), (0, u "canMoveTo"), (0, u "(Lcom/example/indenture/indenture/status/ContractStatus;)Z"), (3, u "law"), (0, u "(II)Z")] 2

def k1m0 : Method := { name := "<init>", desc := "()V", sig := { parameters := [], returnType := none }, accessFlags := 2, code := none }
def k1c1 : Code := { maxStack := 1, maxLocals := 1, code := method_2_code, exceptionTable := #[], attributes := #[] }
def k1m1 : Method := { name := "pick", desc := "(I)Lcom/example/indenture/indenture/status/ContractStatus;", sig := { parameters := [.int], returnType := some (.object "com/example/indenture/indenture/status/ContractStatus") }, accessFlags := 10, code := some k1c1 }
def k1c2 : Code := { maxStack := 2, maxLocals := 7, code := code, exceptionTable := #[], attributes := #[] }
def k1m2 : Method := { name := "law", desc := "(II)Z", sig := { parameters := [.int, .int], returnType := some .boolean }, accessFlags := 9, code := some k1c2 }
/-- com/example/indenture/indenture/status/ContractStatusCanMoveToPinLaw -/
def k1 : Class := { plain "com/example/indenture/indenture/status/ContractStatusCanMoveToPinLaw" (some 0) with
  accessFlags := 49
  interfaces := #[]
  cf := some (fileOf pool1 17 #[] #[{ accessFlags := 2, nameIndex := 5, descriptorIndex := 6, attributes := #[] }, { accessFlags := 10, nameIndex := 20, descriptorIndex := 21, attributes := #[] }, { accessFlags := 9, nameIndex := 29, descriptorIndex := 30, attributes := #[] }] 49 2 #[] #[])
  fields := #[]
  methods := #[k1m0, k1m1, k1m2]
  instanceTypes := #[]
  staticTypes := #[]
  resolved := Array.replicate 33 none
  statics := none }

def pool2 : Array CpInfo := pool [(1, .class_ 2), (0, u "java/lang/constant/Constable"), (0, .class_ 4), (0, u "java/lang/Object")] 6

/-- java/lang/constant/Constable -/
def k2 : Class := { plain "java/lang/constant/Constable" (some 0) with
  accessFlags := 1537
  interfaces := #[]
  cf := some (fileOf pool2 1 #[] #[] 1537 3 #[] #[])
  fields := #[]
  methods := #[]
  instanceTypes := #[]
  staticTypes := #[]
  resolved := Array.replicate 11 none
  statics := none }

def pool3 : Array CpInfo := pool [(1, .class_ 2), (0, u "java/lang/Comparable"), (0, .class_ 4), (0, u "java/lang/Object")] 7

/-- java/lang/Comparable -/
def k3 : Class := { plain "java/lang/Comparable" (some 0) with
  accessFlags := 1537
  interfaces := #[]
  cf := some (fileOf pool3 1 #[] #[] 1537 3 #[] #[])
  fields := #[]
  methods := #[]
  instanceTypes := #[]
  staticTypes := #[]
  resolved := Array.replicate 12 none
  statics := none }

def pool4 : Array CpInfo := pool [(1, .class_ 2), (0, u "java/io/Serializable"), (0, .class_ 4), (0, u "java/lang/Object")] 2

/-- java/io/Serializable -/
def k4 : Class := { plain "java/io/Serializable" (some 0) with
  accessFlags := 1537
  interfaces := #[]
  cf := some (fileOf pool4 1 #[] #[] 1537 3 #[] #[])
  fields := #[]
  methods := #[]
  instanceTypes := #[]
  staticTypes := #[]
  resolved := Array.replicate 7 none
  statics := none }

def pool5 : Array CpInfo := pool [(2, .class_ 4), (1, u "java/lang/Enum"), (0, u "name"), (0, u "Ljava/lang/String;"), (2, u "ordinal"), (0, u "I"), (1, .class_ 14), (1, u "java/lang/Object"), (4, u "hash"), (86, .class_ 108), (1, u "java/lang/Enum$EnumDesc"), (2, .class_ 112), (0, u "java/lang/constant/Constable"), (0, .class_ 114), (0, u "java/lang/Comparable"), (0, .class_ 116), (0, u "java/io/Serializable")] 87

/-- java/lang/Enum -/
def k5 : Class := { plain "java/lang/Enum" (some 0) with
  accessFlags := 1057
  interfaces := #[2, 3, 4]
  cf := some (fileOf pool5 2 #[.nestMembers #[106]] #[] 1057 12 #[111, 113, 115] #[{ accessFlags := 18, nameIndex := 5, descriptorIndex := 6, attributes := #[] }, { accessFlags := 18, nameIndex := 9, descriptorIndex := 10, attributes := #[] }, { accessFlags := 2, nameIndex := 19, descriptorIndex := 10, attributes := #[] }])
  fields := #[{ name := "name", type := (.object "java/lang/String"), accessFlags := 18, slot := 0, constantValue := 0 }, { name := "ordinal", type := .int, accessFlags := 18, slot := 1, constantValue := 0 }, { name := "hash", type := .int, accessFlags := 2, slot := 2, constantValue := 0 }]
  methods := #[]
  instanceTypes := #[(.object "java/lang/String"), .int, .int]
  staticTypes := #[]
  resolved := Array.replicate 204 none
  statics := none }

def pool6 : Array CpInfo := pool [(8, .class_ 10), (1, u "com/example/indenture/indenture/status/Status"), (83, .class_ 95), (0, u "java/lang/Object")] 50

/-- com/example/indenture/indenture/status/Status -/
def k6 : Class := { plain "com/example/indenture/indenture/status/Status" (some 0) with
  accessFlags := 1537
  interfaces := #[]
  cf := some (fileOf pool6 8 #[] #[] 1537 94 #[] #[])
  fields := #[]
  methods := #[]
  instanceTypes := #[]
  staticTypes := #[]
  resolved := Array.replicate 146 none
  statics := none }

def pool7 : Array CpInfo := pool [(1, .class_ 2), (0, u "com/example/indenture/indenture/status/ContractStatus"), (0, .fieldref 1 4), (0, .nameAndType 5 6), (0, u "PENDING"), (0, u "Lcom/example/indenture/indenture/status/ContractStatus;"), (0, .fieldref 1 8), (0, .nameAndType 9 6), (0, u "ACTIVE"), (2, u "$VALUES"), (0, u "[Lcom/example/indenture/indenture/status/ContractStatus;"), (6, .class_ 22), (1, u "java/lang/Enum"), (8, u "canMoveTo"), (0, u "(Lcom/example/indenture/indenture/status/ContractStatus;)Z"), (7, .class_ 41), (0, u "com/example/indenture/indenture/status/Status")] 15

def k7c0 : Code := { maxStack := 2, maxLocals := 2, code := prog_115_method_4_code, exceptionTable := #[], attributes := #[] }
def k7m0 : Method := { name := "canMoveTo", desc := "(Lcom/example/indenture/indenture/status/ContractStatus;)Z", sig := { parameters := [(.object "com/example/indenture/indenture/status/ContractStatus")], returnType := some .boolean }, accessFlags := 1, code := some k7c0 }
/-- com/example/indenture/indenture/status/ContractStatus -/
def k7 : Class := { plain "com/example/indenture/indenture/status/ContractStatus" (some 5) with
  accessFlags := 16433
  interfaces := #[6]
  cf := some (fileOf pool7 1 #[] #[{ accessFlags := 1, nameIndex := 31, descriptorIndex := 32, attributes := #[] }] 16433 20 #[40] #[{ accessFlags := 16409, nameIndex := 5, descriptorIndex := 6, attributes := #[] }, { accessFlags := 16409, nameIndex := 9, descriptorIndex := 6, attributes := #[] }, { accessFlags := 4122, nameIndex := 12, descriptorIndex := 13, attributes := #[] }])
  fields := #[{ name := "PENDING", type := (.object "com/example/indenture/indenture/status/ContractStatus"), accessFlags := 16409, slot := 0, constantValue := 0 }, { name := "ACTIVE", type := (.object "com/example/indenture/indenture/status/ContractStatus"), accessFlags := 16409, slot := 1, constantValue := 0 }, { name := "$VALUES", type := (.array (.object "com/example/indenture/indenture/status/ContractStatus")), accessFlags := 4122, slot := 2, constantValue := 0 }]
  methods := #[k7m0]
  instanceTypes := #[(.object "java/lang/String"), .int, .int]
  staticTypes := #[(.object "com/example/indenture/indenture/status/ContractStatus"), (.object "com/example/indenture/indenture/status/ContractStatus"), (.array (.object "com/example/indenture/indenture/status/ContractStatus"))]
  resolved := Array.replicate 57 none
  statics := some 0 }

def pool8 : Array CpInfo := pool [(1, u "java/lang/Cloneable"), (0, .class_ 1), (0, u "java/lang/Object"), (0, .class_ 3)] 3

/-- java/lang/Cloneable -/
def k8 : Class := { plain "java/lang/Cloneable" (some 0) with
  accessFlags := 1537
  interfaces := #[]
  cf := some (fileOf pool8 2 #[] #[] 1537 4 #[] #[])
  fields := #[]
  methods := #[]
  instanceTypes := #[]
  staticTypes := #[]
  resolved := Array.replicate 8 none
  statics := none }

/-- the primitive byte -/
def k9 : Class := { plain "byte" none with kind := .primitive 'B', accessFlags := 0x411 }
/-- [B -/
def k10 : Class := { plain "[B" (some 0) with kind := .array 9 .byte, interfaces := #[8, 4], accessFlags := 1041 }

/-- the primitive int -/
def k11 : Class := { plain "int" none with kind := .primitive 'I', accessFlags := 0x411 }
/-- [I -/
def k12 : Class := { plain "[I" (some 0) with kind := .array 11 .int, interfaces := #[8, 4], accessFlags := 1041 }

def heap : Heap := #[{ cls := 7, slots := #[.ref 1, .ref 2, .null], vm := .statics 7 },
  { cls := 7, slots := #[.null, .int 0, .int 0], vm := .none },
  { cls := 7, slots := #[.null, .int 1, .int 0], vm := .none }]
def classes : Array Class := #[k0, k1, k2, k3, k4, k5, k6, k7, k8, k9, k10, k11, k12]
def interned : List (Array UInt16 × Addr) := []
def slotsUsed : Nat := 9
def theMethod : MethodId := ⟨1, 2⟩
def args0 : Array Value := #[.int 0, .int 1]
def aboutOver (below : List Frame) : State where
  vm := { classes := classes, interned := interned.toArray }
  heap := heap
  slotsUsed := slotsUsed
  threads := #[{ frames := .invoking theMethod args0 :: below }]
def below0 : List Frame := [.native { method := ⟨0, 0⟩, args := #[] }]
def about1 : State := aboutOver below0
def p0 : Program := .bare "" "" ""
def e0 : Env := launch0.env 0 0 0
theorem w_frames : about1.frames = Frame.invoking theMethod args0 :: below0 := rfl
set_option maxRecDepth 65536 in
theorem w_args : argsFit about1.vm theMethod args0 = true := by decide +kernel
set_option maxRecDepth 65536 in
theorem w_heap : heapFits about1 = true := by decide +kernel
set_option maxRecDepth 65536 in
theorem w_runnable : about1.curStatus? = some .runnable := by decide +kernel
set_option maxRecDepth 65536 in
theorem w_alone : about1.alone = true := by decide +kernel
set_option maxRecDepth 65536 in
theorem w_named : about1.methodNamed? x = some theMethod := by decide +kernel
set_option maxRecDepth 65536 in
theorem w_hears : about1.hears theMethod below0 = true := by decide +kernel
set_option maxRecDepth 65536 in
theorem w_ripe : about1.ripe theMethod args0 below0 = true := by decide +kernel
theorem w_running : about1.status = .running := rfl
set_option maxRecDepth 65536 in
theorem w_room : about1.hasRoom e0.platform room_1 = true :=
  launch0.hasRoom_least _ room_1 (by decide +kernel) (by decide +kernel) (by decide +kernel) (by decide +kernel) (by decide +kernel) (by decide +kernel)
theorem allAtoms_all (ts : List Jvm.Cond) (a : Array Jvm.Value) (st : Jvm.State) : (allAtoms ts).before a st = ts.all (fun c => c.before a st) := by
  induction ts with
  | nil => rfl
  | cons c t ih =>
    show (Jvm.Cond.and c (allAtoms t)).before a st = _
    rw [Jvm.Cond.before_and, ih, List.all_cons]
def words1 : List Jvm.Cond := Jvm.Cond.code x code maxLocals ret :: tables_1
/-- a 'code' word, met by the world's own term for the bytes: nothing is compared byte by byte -/
theorem code_word {y : MethodName} {bytes : ByteArray} {mx : Nat} {rt : Option FieldType} {a : Array Value} {s : State} {m : MethodId} {meth : Method} {c : Code} (h1 : s.methodNamed? y = some m) (h2 : s.vm.method? m = some meth) (h3 : meth.code = some c) (h4 : c.code = bytes)
    (h5 : (c.maxLocals == mx && c.exceptionTable.isEmpty && decide (c.maxStack ≤ mostOperands) && decide (meth.sig.returnType = rt) && !meth.locks && decide (parseMethodDescriptor y.desc = some meth.sig)) = true) : (Jvm.Cond.code y bytes mx rt).before a s = true := by
  simp only [Bool.and_eq_true, beq_iff_eq, Bool.not_eq_true', decide_eq_true_eq] at h5
  obtain ⟨⟨⟨⟨⟨g1, g2⟩, g3⟩, g4⟩, g5⟩, g6⟩ := h5
  simp [Cond.before, Cond.holds, Cond.value, h1, h2, h3, h4, g1, g2, g3, g4, g5, g6]
def isCode : Jvm.Cond → Bool
  | .code _ _ _ _ => true
  | _ => false
theorem all_split {L : List Jvm.Cond} {P : Jvm.Cond → Bool} (h1 : L.all (fun c => isCode c || P c) = true) (h2 : ∀ c ∈ L.filter isCode, P c = true) : L.all P = true := by
  refine List.all_eq_true.mpr fun c hc => ?_
  have h := List.all_eq_true.mp h1 c hc
  rcases Bool.eq_false_or_eq_true (isCode c) with hi | hi
  · exact h2 c (List.mem_filter.mpr ⟨hc, hi⟩)
  · simpa [hi] using h
set_option maxRecDepth 65536 in
theorem w_c0 : (Jvm.Cond.code x code maxLocals ret).before args0 about1 = true := code_word (m := ⟨1, 2⟩) (meth := k1m2) (c := k1c2) (by decide +kernel) rfl rfl rfl (by decide +kernel)
set_option maxRecDepth 65536 in
theorem w_c1 : (Jvm.Cond.code ({ cls := "com/example/indenture/indenture/status/ContractStatusCanMoveToPinLaw", name := "pick", desc := "(I)Lcom/example/indenture/indenture/status/ContractStatus;" } : Jvm.MethodName) method_2_code (1 : Nat) (Option.some (Jvm.ClassFile.FieldType.object "com/example/indenture/indenture/status/ContractStatus"))).before args0 about1 = true := code_word (m := ⟨1, 1⟩) (meth := k1m1) (c := k1c1) (by decide +kernel) rfl rfl rfl (by decide +kernel)
set_option maxRecDepth 65536 in
theorem w_c2 : (Jvm.Cond.code ({ cls := "com/example/indenture/indenture/status/ContractStatus", name := "canMoveTo", desc := "(Lcom/example/indenture/indenture/status/ContractStatus;)Z" } : Jvm.MethodName) prog_115_method_4_code (2 : Nat) (Option.some Jvm.ClassFile.FieldType.boolean)).before args0 about1 = true := code_word (m := ⟨7, 0⟩) (meth := k7m0) (c := k7c0) (by decide +kernel) rfl rfl rfl (by decide +kernel)
def codes1 : List Jvm.Cond := [Jvm.Cond.code x code maxLocals ret, Jvm.Cond.code ({ cls := "com/example/indenture/indenture/status/ContractStatusCanMoveToPinLaw", name := "pick", desc := "(I)Lcom/example/indenture/indenture/status/ContractStatus;" } : Jvm.MethodName) method_2_code (1 : Nat) (Option.some (Jvm.ClassFile.FieldType.object "com/example/indenture/indenture/status/ContractStatus")), Jvm.Cond.code ({ cls := "com/example/indenture/indenture/status/ContractStatus", name := "canMoveTo", desc := "(Lcom/example/indenture/indenture/status/ContractStatus;)Z" } : Jvm.MethodName) prog_115_method_4_code (2 : Nat) (Option.some Jvm.ClassFile.FieldType.boolean)]
set_option maxRecDepth 65536 in
theorem codes_eq : words1.filter isCode = codes1 := rfl
theorem w_codes : ∀ c ∈ words1.filter isCode, c.before args0 about1 = true := by
  rw [codes_eq]
  intro c hc
  simp only [codes1, List.mem_cons, List.not_mem_nil, or_false] at hc
  rcases hc with rfl | rfl | rfl
  · exact w_c0
  · exact w_c1
  · exact w_c2
set_option maxRecDepth 65536 in
theorem w_t1 : words1.all (fun c => isCode c || c.before args0 about1) = true := by decide +kernel
theorem w_tables : (allAtoms (Jvm.Cond.code x code maxLocals ret :: tables_1)).before args0 about1 = true := by
  rw [allAtoms_all]
  show words1.all (fun c => c.before args0 about1) = true
  refine all_split ?_ w_codes
  rw [w_t1]
set_option maxRecDepth 65536 in
theorem w_case : (Jvm.Cond.and given_1 narrow_1).before args0 about1 = true := by decide +kernel
theorem w_applies : (headSpec (Jvm.Cond.code x code maxLocals ret :: tables_1) room_1).applies x e0.platform about1 = true :=
  (Spec.applies_iff w_frames).mpr ⟨w_running, w_runnable, w_alone, w_named, w_hears, w_ripe, w_room, w_tables⟩
theorem atStart : AtStart classFile x code maxLocals ret World_1 tables_1 room_1 Calls_1 rest_1 Pre_1 launch0 p0 e0 about1 theMethod args0 below0 :=
  ⟨lists_1, trivial, launch0.admits_env _ _ _, launch0.least_env, fairChoices_fair.cas, fairChoices_fair.clock, w_frames, w_args, w_heap, w_applies, trivial, trivial, w_case⟩
end start1
theorem witness_1 : WitnessClaimed_1 := ⟨start1.p0, start1.e0, start1.about1, start1.theMethod, start1.args0, start1.below0, start1.atStart⟩
end Jvm.Pilot.@@N@@
