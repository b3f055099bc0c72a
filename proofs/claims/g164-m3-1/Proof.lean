import JvmDerived
import JvmDerived.Pilot.@@N@@Statement
import JvmDerived.Pilot.@@N@@Code
set_option linter.unusedVariables false
set_option linter.unusedSimpArgs false
namespace Jvm.RoadKit
open Sem ClassFile Op Lib Jvm.Stand Jvm.Free Jvm.LawKit
section New
variable {p : Program} {l : Launch} {e : Env} {R : Room} {s : State} {m : MethodId} {args : Array Value} {below : List Frame} {meth : Method} {c : Code} {T : State} {locs : List Loc} {cells slots : Nat}
theorem retI (X : Stand p l e R s m args below meth c T locs cells slots) (hx : p.tables.exec = Jvm.exec) {pc : Nat} {Ls : Array Slot} {z : Int32} {rest : List Value} (hret : meth.sig.returnType = some .int) (hd : decode c.code pc = .ok (.ireturn, 1)) {fs : List Frame}
    (hl : ∀ (f : JFrame) (acts : List Action), f.method = m → f.locked = none → f.entered = [] → (doReturn e (T.setTop f) acts (some (.int z))).1 = T.setFrames fs) : Steps p.tables e below (T.setTop (mkF m pc Ls (.int z :: rest))) (T.setFrames fs) :=
  retOut X hx hret rfl (Or.inl ⟨rfl, Or.inl rfl, _, rfl⟩) hd hl
end New
end Jvm.RoadKit
namespace Jvm.Pilot.@@N@@
open Jvm Jvm.ClassFile Sem Op Lib Jvm.Free Jvm.Stand Jvm.LawKit Jvm.RoadKit Bundle Jvm.Pilot.@@N@@.Jvm.D
theorem own_feq {args : Array Value} {s : State} {t : Term} {C n d : String} {k : Int32} {x : Addr} (ev : t.eval args s none [] s = some (.ref x)) (h : (Jvm.Cond.eq (.field t C n d) (.int k)).value args s none s [] = some true) : Fld s s.heap x C n d (.int k) := by
  apply Fld.start
  have e := fld_at (C := C) (n := n) (dd := d) ev
  simp only [Cond.value, e] at h
  cases hq : s.fieldOf? x C n d with
  | none => simp [hq] at h
  | some v => cases v <;> simp [hq, Term.eval] at h ⊢; exact h
theorem own_seq {args : Array Value} {s : State} {t : Term} {k : Int32} (h : (Jvm.Cond.eq t (.int k)).value args s none s [] = some true) : t.eval args s none [] s = some (.int k) := by
  simp only [Cond.value] at h
  cases hq : t.eval args s none [] s with
  | none => simp [hq] at h
  | some v => cases v <;> simp [hq, Term.eval] at h ⊢; exact h
theorem own_getR {p : Program} {l : Launch} {e : Env} {R : Room} {s : State} {m : MethodId} {args : Array Value} {below : List Frame} {meth : Method} {c : Code} {T : State} {locs : List Loc} {cells slots : Nat} {Z : State} {a0 : Array Value} {h : Heap}
    (X : Stand p l e R s m args below meth c T locs cells slots) (hx : p.tables.exec = Jvm.exec) (hZ : Z.Warmed39 s.vm) {own O n d : String} {index : Nat} (hown : s.vm.findClass own = some m.cls) (w : (Jvm.Cond.fieldRef own index O n d).before a0 Z = true) (eT : T.heap = h) {a : Addr} {v : Value} (F : Fld Z h a O n d v)
    {g : JFrame} (hg : g.method = m) {rest : List Value} (hs : g.stack = .ref a :: rest) (hd : decode c.code g.pc = .ok (.getfield index, 3)) (target : State) (k : Steps p.tables e below (T.setTop { g with pc := g.pc + 3, stack := v :: rest }) target) : Steps p.tables e below (T.setTop g) target := by
  have hT : Z.Warmed39 T.vm := wtrans hZ X.warmed
  have w' := Cond.fieldRef_warmed39 hT w
  have hc : (Z.setVm T.vm).vm.findClass own = some m.cls := by
    show T.vm.findClass own = _
    rw [hT.alike.findClass, ← hZ.alike.findClass]; exact hown
  obtain ⟨cf, k0, i, f, hi, hr⟩ := Cond.fieldRef_spec hc w'
  obtain ⟨cell, cf', k', i', f', h1, h2, h3, h4, -, -, h7⟩ := F
  obtain ⟨k'', hi', -⟩ := State.fieldFound?_setVm (s := Z) hT.alike h2
  cases hi.symm.trans hi'
  exact (X.getfieldR hx hg hr h3 hs (by rw [eT]; exact h1) h4 h7 hd (Steps.refl _)).trans k
theorem pn_0 : plainName "java/lang/Record" = true := by first | (simp [plainName, overriddenIn]; done) | decide +kernel
theorem d2_0 : decode jdk_30_method_1_code 0 = .ok (.aload_n 0, 1) := by decide +kernel
theorem d2_1 : decode jdk_30_method_1_code 1 = .ok (.invokespecial 1, 3) := by decide +kernel
theorem d2_4 : decode jdk_30_method_1_code 4 = .ok (.return_, 1) := by decide +kernel
theorem ef_rec (m : MethodId) (x0 : Addr) : entryFrame m #[(.ref x0)] 1 = mkF m 0 #[.val (.ref x0)] [] := by first | (simp [entryFrame, mkF, argsToLocals, Value.category]; done) | rfl
def Qrec (Z : State) (a1 : Addr) (h0 : Heap) (n0 : Nat) (v : Option Value) (h : Heap) (L : List Loc) : Prop := v = none ∧ Fr n0 L ∧ h = h0
set_option maxRecDepth 65536 in
set_option maxHeartbeats 40000000 in
theorem rmrec (l : Launch) (Z : State) (a0 : Array Value) (hw : ∀ d ∈ tables_1, d.before a0 Z = true) (ws : List Jvm.Cond) (a1 : Addr) (h0 : Heap) (n0 : Nat) (Z0 : n0 ≤ h0.size) :
    MetFree l (⟨"java/lang/Record", "<init>", "()V"⟩ : MethodName) (head1 (Jvm.Cond.code (⟨"java/lang/Record", "<init>", "()V"⟩ : MethodName) jdk_30_method_1_code 1 none :: ws) ({ frames := 1, cells := 0, slots := 0, locals := 12 } : Room)) (fun a U => a = #[(.ref a1)] ∧ Z.Warmed39 U.vm ∧ U.heap = h0) (fun _ _ _ _ _ => True) (fun _ U o U' => ∃ v L, o = .returned v ∧ Qrec Z a1 h0 n0 v U'.heap L ∧ FrameEnd U o U' L ({ frames := 1, cells := 0, slots := 0, locals := 12 } : Room).cells ({ frames := 1, cells := 0, slots := 0, locals := 12 } : Room).slots) := by
  refine MetFree.of_bodySF (plainFor_of_name pn_0) hisR ?_
  intro p e s m args below meth c s₁ Bd hml0 hP hK
  obtain ⟨rfl, hZ, hh⟩ := hP
  have hx := Bd.exec
  have hby := Bd.bytes
  have hml : c.maxLocals = 1 := hml0
  have hown : s.vm.findClass "java/lang/Record" = some m.cls := findClass_of_methodNamed Bd.named
  have hnm := (name_of_methodNamed Bd.named Bd.method).1
  have X0 : Stand p l e ({ frames := 1, cells := 0, slots := 0, locals := 12 } : Room) s m #[(.ref a1)] below meth c s₁ [] 0 0 := Stand.of_body Bd
  have e0 : s₁.heap = h0 := by rw [← hh, Bd.state]; rfl
  have N0 := Fr.nil n0
  have pre0 : ∀ t, Steps p.tables e below (s₁.setTop (mkF m 0 #[.val (.ref a1)] [])) t → Steps p.tables e below (s₁.setTop (entryFrame m #[(.ref a1)] 1)) t := fun t k => castTop (ef_rec m a1) k
  obtain ⟨T1, X1, e1, st1⟩ := initO X0 hx hZ hown (hw _ (List.mem_of_getElem? (i := 11) rfl)) (hw _ (List.mem_of_getElem? (i := 12) rfl)) (hw _ (List.mem_of_getElem? (i := 13) rfl)) e0 (g := (mkF m 1 #[.val (.ref a1)] [(.ref a1)])) rfl (by rw [hml]; rfl) rfl (hb hby d2_1) (by decide) (W := 0) (by show 2 * 0 + _ ≤ _; exact Nat.le_of_eq rfl) (by decide)
  obtain ⟨fs, hr, hrun, hended, hW, hsame⟩ := X1.leave (v := none) (fun _ => rfl) Bd.notSynchronized
  refine ⟨_, _, pre0 _ ?_, hrun, hended, _, _, rfl, ?_, ⟨_, rfl⟩, hW, hsame.mono (by decide) (by decide)⟩
  · show Steps p.tables e below (s₁.setTop (mkF m 0 #[.val (.ref a1)] [])) _
    refine XS.aloadN X0.here hx rfl (hb hby d2_0) rfl rfl ?_
    show Steps p.tables e below (s₁.setTop (mkF m 1 #[.val (.ref a1)] [(.ref a1)])) _
    refine st1 _ ?_
    show Steps p.tables e below (T1.setTop (mkF m 4 #[.val (.ref a1)] [])) _
    exact X1.returnOut hx Bd.returns (hb hby d2_4) hr
  · show Qrec Z a1 h0 n0 _ T1.heap _
    rw [e1]
    exact ⟨rfl, N0, rfl⟩
theorem pn_4 : plainName "com/example/strict_allowlist/strictallowlist/WhitelistMode" = true := by first | (simp [plainName, overriddenIn]; done) | decide +kernel
theorem d4_0 : decode prog_37_method_7_code 0 = .ok (.iload_n 0, 1) := by decide +kernel
theorem d4_1 : decode prog_37_method_7_code 1 = .ok (.getstatic 32, 3) := by decide +kernel
theorem d4_4 : decode prog_37_method_7_code 4 = .ok (.iconst (-1), 1) := by decide +kernel
theorem d4_5 : decode prog_37_method_7_code 5 = .ok (.ixor, 1) := by decide +kernel
theorem d4_6 : decode prog_37_method_7_code 6 = .ok (.iand, 1) := by decide +kernel
theorem d4_7 : decode prog_37_method_7_code 7 = .ok (.ifCond .ne 7, 3) := by decide +kernel
theorem d4_10 : decode prog_37_method_7_code 10 = .ok (.iconst 1, 1) := by decide +kernel
theorem d4_11 : decode prog_37_method_7_code 11 = .ok (.goto 4, 3) := by decide +kernel
theorem d4_15 : decode prog_37_method_7_code 15 = .ok (.ireturn, 1) := by decide +kernel
theorem d4_14 : decode prog_37_method_7_code 14 = .ok (.iconst 0, 1) := by decide +kernel
theorem ef_ss (m : MethodId) (x0 : Int32) : entryFrame m #[(.int x0)] 1 = mkF m 0 #[.val (.int x0)] [] := by first | (simp [entryFrame, mkF, argsToLocals, Value.category]; done) | rfl
def fss (p1 : Int32) : Int32 := if (p1 &&& ((31 : Int32) ^^^ (-1 : Int32))) = (0 : Int32) then (1 : Int32) else (0 : Int32)
def Qss (Z : State) (p1 : Int32) (h0 : Heap) (n0 : Nat) (v : Option Value) (h : Heap) (L : List Loc) : Prop := v = some (.int (fss p1)) ∧ Fr n0 L ∧ h = h0
set_option maxRecDepth 65536 in
set_option maxHeartbeats 40000000 in
theorem rmss (l : Launch) (Z : State) (a0 : Array Value) (hw : ∀ d ∈ tables_1, d.before a0 Z = true) (ws : List Jvm.Cond) (p1 : Int32) (h0 : Heap) (n0 : Nat) (Z0 : n0 ≤ h0.size) (S_ALL_FLAGS : Sta Z h0 "com/example/strict_allowlist/strictallowlist/WhitelistMode" "ALL_FLAGS" "I" (.int (31 : Int32))) :
    MetFree l (⟨"com/example/strict_allowlist/strictallowlist/WhitelistMode", "isSumOfFlags", "(I)Z"⟩ : MethodName) (head1 (Jvm.Cond.code (⟨"com/example/strict_allowlist/strictallowlist/WhitelistMode", "isSumOfFlags", "(I)Z"⟩ : MethodName) prog_37_method_7_code 1 (some .boolean) :: ws) ({ frames := 0, cells := 0, slots := 0, locals := 0 } : Room)) (fun a U => a = #[(.int p1)] ∧ Z.Warmed39 U.vm ∧ U.heap = h0) (fun _ _ _ _ _ => True) (fun _ U o U' => ∃ v L, o = .returned v ∧ Qss Z p1 h0 n0 v U'.heap L ∧ FrameEnd U o U' L ({ frames := 0, cells := 0, slots := 0, locals := 0 } : Room).cells ({ frames := 0, cells := 0, slots := 0, locals := 0 } : Room).slots) := by
  refine MetFree.of_bodySF (plainFor_of_name pn_4) hisR ?_
  intro p e s m args below meth c s₁ Bd hml0 hP hK
  obtain ⟨rfl, hZ, hh⟩ := hP
  have hx := Bd.exec
  have hby := Bd.bytes
  have hml : c.maxLocals = 1 := hml0
  have hown : s.vm.findClass "com/example/strict_allowlist/strictallowlist/WhitelistMode" = some m.cls := findClass_of_methodNamed Bd.named
  have hnm := (name_of_methodNamed Bd.named Bd.method).1
  have X0 : Stand p l e ({ frames := 0, cells := 0, slots := 0, locals := 0 } : Room) s m #[(.int p1)] below meth c s₁ [] 0 0 := Stand.of_body Bd
  have e0 : s₁.heap = h0 := by rw [← hh, Bd.state]; rfl
  have N0 := Fr.nil n0
  have pre0 : ∀ t, Steps p.tables e below (s₁.setTop (mkF m 0 #[.val (.int p1)] [])) t → Steps p.tables e below (s₁.setTop (entryFrame m #[(.int p1)] 1)) t := fun t k => castTop (ef_ss m p1) k
  obtain ⟨T1, X1, e1, st1⟩ := getS2 X0 hx hZ hown (host := "") (Or.inl (hw _ (List.mem_of_getElem? (i := 17) rfl))) Via.refl e0 S_ALL_FLAGS (g := (mkF m 1 #[.val (.int p1)] [(.int p1)])) rfl (hb hby d4_1)
  have pre2 : ∀ t, Steps p.tables e below (T1.setTop (mkF m 7 #[.val (.int p1)] [(.int (p1 &&& ((31 : Int32) ^^^ (-1 : Int32))))])) t → Steps p.tables e below (s₁.setTop (entryFrame m #[(.int p1)] 1)) t := fun t k => pre0 t (by
    show Steps p.tables e below (s₁.setTop (mkF m 0 #[.val (.int p1)] [])) _
    refine XS.iloadN X0.here hx rfl (hb hby d4_0) rfl ?_
    show Steps p.tables e below (s₁.setTop (mkF m 1 #[.val (.int p1)] [(.int p1)])) _
    refine st1 _ ?_
    show Steps p.tables e below (T1.setTop (mkF m 4 #[.val (.int p1)] [(.int (31 : Int32)), (.int p1)])) _
    refine XS.iconst X1.here hx rfl (hb hby d4_4) ?_
    show Steps p.tables e below (T1.setTop (mkF m 5 #[.val (.int p1)] [(.int (-1 : Int32)), (.int (31 : Int32)), (.int p1)])) _
    refine XS.ixor X1.here hx rfl (hb hby d4_5) rfl ?_
    show Steps p.tables e below (T1.setTop (mkF m 6 #[.val (.int p1)] [(.int ((31 : Int32) ^^^ (-1 : Int32))), (.int p1)])) _
    refine XS.iand X1.here hx rfl (hb hby d4_6) rfl ?_
    exact k)
  by_cases hc3 : (p1 &&& ((31 : Int32) ^^^ (-1 : Int32))) = (0 : Int32)
  ·  -- pc 7: (p1 &&& ((31 : Int32) ^^^ (-1 : Int32))) = (0 : Int32)
    obtain ⟨fs, hr, hrun, hended, hW, hsame⟩ := X1.leave (v := some (.int (1 : Int32))) (fun h => by rw [Bd.returns] at h; cases h) Bd.notSynchronized
    refine ⟨_, _, pre2 _ ?_, hrun, hended, _, _, rfl, ?_, ⟨_, rfl⟩, hW, hsame.mono (by decide) (by decide)⟩
    · show Steps p.tables e below (T1.setTop (mkF m 7 #[.val (.int p1)] [(.int (p1 &&& ((31 : Int32) ^^^ (-1 : Int32))))])) _
      refine XS.ifNo X1.here hx rfl (hb hby d4_7) rfl ((if0 _ _).trans (teq hc3).2) ?_
      show Steps p.tables e below (T1.setTop (mkF m 10 #[.val (.int p1)] [])) _
      refine XS.iconst X1.here hx rfl (hb hby d4_10) ?_
      show Steps p.tables e below (T1.setTop (mkF m 11 #[.val (.int p1)] [(.int (1 : Int32))])) _
      refine XS.goto X1.here hx rfl (pc0 := 11) (pc' := 15) rfl (hb hby d4_11) (by decide) (by decide) ?_
      show Steps p.tables e below (T1.setTop (mkF m 15 #[.val (.int p1)] [(.int (1 : Int32))])) _
      exact retN X1 hx (t := .boolean) Bd.returns (by simp) (hb hby d4_15) hr
    · show Qss Z p1 h0 n0 _ T1.heap _
      rw [e1]
      exact ⟨(by unfold fss; rw [if_pos hc3]), N0, rfl⟩
  ·  -- pc 7: not (p1 &&& ((31 : Int32) ^^^ (-1 : Int32))) = (0 : Int32)
    obtain ⟨fs, hr, hrun, hended, hW, hsame⟩ := X1.leave (v := some (.int (0 : Int32))) (fun h => by rw [Bd.returns] at h; cases h) Bd.notSynchronized
    refine ⟨_, _, pre2 _ ?_, hrun, hended, _, _, rfl, ?_, ⟨_, rfl⟩, hW, hsame.mono (by decide) (by decide)⟩
    · show Steps p.tables e below (T1.setTop (mkF m 7 #[.val (.int p1)] [(.int (p1 &&& ((31 : Int32) ^^^ (-1 : Int32))))])) _
      refine XS.ifYes X1.here hx rfl (pc0 := 7) (pc' := 14) rfl (hb hby d4_7) rfl ((if0 _ _).trans (feq hc3).2) (by decide) (by decide) ?_
      show Steps p.tables e below (T1.setTop (mkF m 14 #[.val (.int p1)] [])) _
      refine XS.iconst X1.here hx rfl (hb hby d4_14) ?_
      show Steps p.tables e below (T1.setTop (mkF m 15 #[.val (.int p1)] [(.int (0 : Int32))])) _
      exact retN X1 hx (t := .boolean) Bd.returns (by simp) (hb hby d4_15) hr
    · show Qss Z p1 h0 n0 _ T1.heap _
      rw [e1]
      exact ⟨(by unfold fss; rw [if_neg hc3]), N0, rfl⟩
theorem d1_0 : decode prog_37_method_1_code 0 = .ok (.aload_n 0, 1) := by decide +kernel
theorem d1_1 : decode prog_37_method_1_code 1 = .ok (.invokespecial 1, 3) := by decide +kernel
theorem pd_17 : parseMethodDescriptor "()V" = some ⟨[], none⟩ := by decide +kernel
theorem d1_4 : decode prog_37_method_1_code 4 = .ok (.iload_n 1, 1) := by decide +kernel
theorem d1_5 : decode prog_37_method_1_code 5 = .ok (.invokestatic 7, 3) := by decide +kernel
theorem pd_20 : parseMethodDescriptor "(I)Z" = some ⟨[.int], some .boolean⟩ := by decide +kernel
theorem d1_8 : decode prog_37_method_1_code 8 = .ok (.ifCond .ne 18, 3) := by decide +kernel
theorem d1_26 : decode prog_37_method_1_code 26 = .ok (.aload_n 0, 1) := by decide +kernel
theorem d1_27 : decode prog_37_method_1_code 27 = .ok (.iload_n 1, 1) := by decide +kernel
theorem d1_28 : decode prog_37_method_1_code 28 = .ok (.putfield 28, 3) := by decide +kernel
theorem d1_31 : decode prog_37_method_1_code 31 = .ok (.return_, 1) := by decide +kernel
theorem ef_ini (m : MethodId) (x0 : Addr) (x1 : Int32) : entryFrame m #[(.ref x0), (.int x1)] 2 = mkF m 0 #[.val (.ref x0), .val (.int x1)] [] := by first | (simp [entryFrame, mkF, argsToLocals, Value.category]; done) | rfl
def Qini (Z : State) (a1 : Addr) (p2 : Int32) (u1 : Int32) (h0 : Heap) (n0 : Nat) (v : Option Value) (h : Heap) (L : List Loc) : Prop := v = none ∧ Fr n0 L ∧ Keep h0 h [a1] ∧ Exa Z h a1 "com/example/strict_allowlist/strictallowlist/WhitelistMode" ∧ Fld Z h a1 "com/example/strict_allowlist/strictallowlist/WhitelistMode" "value" "I" (.int p2)
set_option maxRecDepth 65536 in
set_option maxHeartbeats 40000000 in
theorem rmini (l : Launch) (Z : State) (a0 : Array Value) (hw : ∀ d ∈ tables_1, d.before a0 Z = true) (ws : List Jvm.Cond) (a1 : Addr) (p2 : Int32) (u1 : Int32) (h0 : Heap) (n0 : Nat) (Z0 : n0 ≤ h0.size) (E_a1 : Exa Z h0 a1 "com/example/strict_allowlist/strictallowlist/WhitelistMode") (F_value_a1 : Fld Z h0 a1 "com/example/strict_allowlist/strictallowlist/WhitelistMode" "value" "I" (.int u1)) (g_a1 : n0 ≤ a1) (S_ALL_FLAGS : Sta Z h0 "com/example/strict_allowlist/strictallowlist/WhitelistMode" "ALL_FLAGS" "I" (.int (31 : Int32))) (hA : ¬ ((fss p2) = (0 : Int32))) :
    MetFree l (⟨"com/example/strict_allowlist/strictallowlist/WhitelistMode", "<init>", "(I)V"⟩ : MethodName) (head1 (Jvm.Cond.code (⟨"com/example/strict_allowlist/strictallowlist/WhitelistMode", "<init>", "(I)V"⟩ : MethodName) prog_37_method_1_code 2 none :: ws) ({ frames := 2, cells := 0, slots := 0, locals := 24 } : Room)) (fun a U => a = #[(.ref a1), (.int p2)] ∧ Z.Warmed39 U.vm ∧ U.heap = h0) (fun _ _ _ _ _ => True) (fun _ U o U' => ∃ v L, o = .returned v ∧ Qini Z a1 p2 u1 h0 n0 v U'.heap L ∧ FrameEnd U o U' L ({ frames := 2, cells := 0, slots := 0, locals := 24 } : Room).cells ({ frames := 2, cells := 0, slots := 0, locals := 24 } : Room).slots) := by
  refine MetFree.of_bodySF (plainFor_of_name pn_4) hisR ?_
  intro p e s m args below meth c s₁ Bd hml0 hP hK
  obtain ⟨rfl, hZ, hh⟩ := hP
  have hx := Bd.exec
  have hby := Bd.bytes
  have hml : c.maxLocals = 2 := hml0
  have hown : s.vm.findClass "com/example/strict_allowlist/strictallowlist/WhitelistMode" = some m.cls := findClass_of_methodNamed Bd.named
  have hnm := (name_of_methodNamed Bd.named Bd.method).1
  have X0 : Stand p l e ({ frames := 2, cells := 0, slots := 0, locals := 24 } : Room) s m #[(.ref a1), (.int p2)] below meth c s₁ [] 0 0 := Stand.of_body Bd
  have e0 : s₁.heap = h0 := by rw [← hh, Bd.state]; rfl
  have N0 := Fr.nil n0
  have pre0 : ∀ t, Steps p.tables e below (s₁.setTop (mkF m 0 #[.val (.ref a1), .val (.int p2)] [])) t → Steps p.tables e below (s₁.setTop (entryFrame m #[(.ref a1), (.int p2)] 2)) t := fun t k => castTop (ef_ini m a1 p2) k
  -- pc 1: Record.<init> by rmrec
  obtain ⟨_, _, ⟨T1, L1, k1, n1⟩, -, X1, ⟨Lc1, hQ1, l1, y1, z1⟩, st1⟩ := X0.specialBack hx (y := (⟨"java/lang/Record", "<init>", "()V"⟩ : MethodName)) rfl hown (mvT hZ (hw _ (List.mem_of_getElem? (i := 6) rfl))) (mvT hZ (hw _ (List.mem_of_getElem? (i := 7) rfl))) (mvT hZ (hw _ (List.mem_of_getElem? (i := 10) rfl))) (by decide) (backOf (W := 0) (rmrec l Z a0 hw [] a1 h0 n0 Z0 ) hZ (hw _ (List.mem_of_getElem? (i := 10) rfl)) (hw _ (List.mem_of_getElem? (i := 9) rfl)) (by decide) (by decide)) (g := (mkF m 1 #[.val (.ref a1), .val (.int p2)] [(.ref a1)])) rfl (by rw [hml]; rfl) (Steps.refl _) (a := a1) (argsL := []) (rest := []) (lenOf pd_17 rfl) rfl (by show 2 * 0 + _ ≤ _; exact Nat.le_of_eq rfl) (hb hby d1_1) (fun _ _ => ⟨rfl, e0, (by decide : 0 + 0 ≤ _), (by decide : 0 + 0 ≤ _)⟩)
  dsimp only [Pt.U, Pt.locs, Pt.cells, Pt.slots] at X1 l1 y1 z1 st1 hQ1
  subst l1 y1 z1
  obtain ⟨rfl, N1q, e1⟩ := hQ1
  have N2 := Fr.app N0 N1q
  -- pc 5: WhitelistMode.isSumOfFlags by rmss
  obtain ⟨_, _, ⟨T3, L3, k3, n3⟩, -, X3, ⟨Lc3, hQ3, l3, y3, z3⟩, st3⟩ := Jvm.LawKit.callS X1 hx (y := (⟨"com/example/strict_allowlist/strictallowlist/WhitelistMode", "isSumOfFlags", "(I)Z"⟩ : MethodName)) hown (mvT hZ (hw _ (List.mem_of_getElem? (i := 14) rfl))) (mvT hZ (hw _ (List.mem_of_getElem? (i := 15) rfl))) (mvT hZ (hw _ (List.mem_of_getElem? (i := 2) rfl))) (mvT hZ (hw _ (List.mem_of_getElem? (i := 16) rfl))) (by decide) (backOf (W := 0) (rmss l Z a0 hw [] p2 h0 n0 Z0 S_ALL_FLAGS) hZ (hw _ (List.mem_of_getElem? (i := 16) rfl)) (hw _ (List.mem_of_getElem? (i := 2) rfl)) (by decide) (by decide)) (g := (mkF m 5 #[.val (.ref a1), .val (.int p2)] [(.int p2)])) rfl (by rw [hml]; rfl) (argsL := [(.int p2)]) (rest := []) (lenOf pd_20 rfl) rfl (by show 2 * 0 + _ ≤ _; exact Nat.le_of_eq rfl) (hb hby d1_5) (fun _ _ => ⟨rfl, e1, (by decide : 0 + 0 ≤ _), (by decide : 0 + 0 ≤ _)⟩)
  dsimp only [Pt.U, Pt.locs, Pt.cells, Pt.slots] at X3 l3 y3 z3 st3 hQ3
  subst l3 y3 z3
  obtain ⟨rfl, N3q, e3⟩ := hQ3
  have N4 := Fr.app N2 N3q
  obtain ⟨T5, h5, X5, e5, W5, st5⟩ := putF X3 hx hZ hown (host := "") (Or.inl (hw _ (List.mem_of_getElem? (i := 19) rfl))) Via.refl e3 F_value_a1 E_a1 (Or.inr ⟨(hw _ (List.mem_of_getElem? (i := 20) rfl)), rfl, hnm⟩) (hw _ (List.mem_of_getElem? (i := 1) rfl)) (ty := .int) (by decide) rfl rfl (g := (mkF m 28 #[.val (.ref a1), .val (.int p2)] [(.int p2), (.ref a1)])) rfl rfl (hb hby d1_28)
  have f6 := E_a1.wr W5
  have f7 := F_value_a1.same W5
  have f8 := S_ALL_FLAGS.wr W5
  have K9 := (Keep.refl h0 [a1]).wr W5 (Or.inl (List.mem_of_getElem? (i := 0) rfl))
  have zs10 : n0 ≤ h5.size := Nat.le_trans Z0 (Keep.of_wr W5).1
  have N11 := Fr.snoc X5 N4 g_a1
  obtain ⟨fs, hr, hrun, hended, hW, hsame⟩ := X5.leave (v := none) (fun _ => rfl) Bd.notSynchronized
  refine ⟨_, _, pre0 _ ?_, hrun, hended, _, _, rfl, ?_, ⟨_, rfl⟩, hW, hsame.mono (by decide) (by decide)⟩
  · show Steps p.tables e below (s₁.setTop (mkF m 0 #[.val (.ref a1), .val (.int p2)] [])) _
    refine XS.aloadN X0.here hx rfl (hb hby d1_0) rfl rfl ?_
    show Steps p.tables e below (s₁.setTop (mkF m 1 #[.val (.ref a1), .val (.int p2)] [(.ref a1)])) _
    refine st1.trans ?_
    show Steps p.tables e below (T1.setTop (mkF m 4 #[.val (.ref a1), .val (.int p2)] [])) _
    refine XS.iloadN X1.here hx rfl (hb hby d1_4) rfl ?_
    show Steps p.tables e below (T1.setTop (mkF m 5 #[.val (.ref a1), .val (.int p2)] [(.int p2)])) _
    refine st3 _ ?_
    show Steps p.tables e below (T3.setTop (mkF m 8 #[.val (.ref a1), .val (.int p2)] [(.int (fss p2))])) _
    refine XS.ifYes X3.here hx rfl (pc0 := 8) (pc' := 26) rfl (hb hby d1_8) rfl ((if0 _ _).trans (feq hA).2) (by decide) (by decide) ?_
    show Steps p.tables e below (T3.setTop (mkF m 26 #[.val (.ref a1), .val (.int p2)] [])) _
    refine XS.aloadN X3.here hx rfl (hb hby d1_26) rfl rfl ?_
    show Steps p.tables e below (T3.setTop (mkF m 27 #[.val (.ref a1), .val (.int p2)] [(.ref a1)])) _
    refine XS.iloadN X3.here hx rfl (hb hby d1_27) rfl ?_
    show Steps p.tables e below (T3.setTop (mkF m 28 #[.val (.ref a1), .val (.int p2)] [(.int p2), (.ref a1)])) _
    refine st5 _ ?_
    show Steps p.tables e below (T5.setTop (mkF m 31 #[.val (.ref a1), .val (.int p2)] [])) _
    exact X5.returnOut hx Bd.returns (hb hby d1_31) hr
  · show Qini Z a1 p2 u1 h0 n0 _ T5.heap _
    rw [e5]
    exact ⟨rfl, N11, K9, f6, f7⟩
theorem d5_0 : decode prog_37_method_3_code 0 = .ok (.aload_n 0, 1) := by decide +kernel
theorem d5_1 : decode prog_37_method_3_code 1 = .ok (.getfield 28, 3) := by decide +kernel
theorem d5_4 : decode prog_37_method_3_code 4 = .ok (.aload_n 1, 1) := by decide +kernel
theorem d5_5 : decode prog_37_method_3_code 5 = .ok (.getfield 57, 3) := by decide +kernel
theorem d5_8 : decode prog_37_method_3_code 8 = .ok (.iand, 1) := by decide +kernel
theorem d5_9 : decode prog_37_method_3_code 9 = .ok (.ifCond .eq 7, 3) := by decide +kernel
theorem d5_16 : decode prog_37_method_3_code 16 = .ok (.iconst 0, 1) := by decide +kernel
theorem d5_17 : decode prog_37_method_3_code 17 = .ok (.ireturn, 1) := by decide +kernel
theorem d5_12 : decode prog_37_method_3_code 12 = .ok (.iconst 1, 1) := by decide +kernel
theorem d5_13 : decode prog_37_method_3_code 13 = .ok (.goto 4, 3) := by decide +kernel
theorem ef_ha (m : MethodId) (x0 : Addr) (x1 : Addr) : entryFrame m #[(.ref x0), (.ref x1)] 2 = mkF m 0 #[.val (.ref x0), .val (.ref x1)] [] := by first | (simp [entryFrame, mkF, argsToLocals, Value.category]; done) | rfl
def fha (val : Int32) (bit : Int32) : Int32 := if (val &&& bit) = (0 : Int32) then (0 : Int32) else (1 : Int32)
def Qha (Z : State) (a1 : Addr) (a2 : Addr) (val : Int32) (bit : Int32) (h0 : Heap) (n0 : Nat) (v : Option Value) (h : Heap) (L : List Loc) : Prop := v = some (.int (fha val bit)) ∧ Fr n0 L ∧ h = h0
set_option maxRecDepth 65536 in
set_option maxHeartbeats 40000000 in
theorem rmha (l : Launch) (Z : State) (a0 : Array Value) (hw : ∀ d ∈ tables_1, d.before a0 Z = true) (ws : List Jvm.Cond) (a1 : Addr) (a2 : Addr) (val : Int32) (bit : Int32) (h0 : Heap) (n0 : Nat) (Z0 : n0 ≤ h0.size) (F_value_a1 : Fld Z h0 a1 "com/example/strict_allowlist/strictallowlist/WhitelistMode" "value" "I" (.int val)) (F_bit_a2 : Fld Z h0 a2 "com/example/strict_allowlist/strictallowlist/WhitelistMode$Flag" "bit" "I" (.int bit)) :
    MetFree l (⟨"com/example/strict_allowlist/strictallowlist/WhitelistMode", "has", "(Lcom/example/strict_allowlist/strictallowlist/WhitelistMode$Flag;)Z"⟩ : MethodName) (head1 (Jvm.Cond.code (⟨"com/example/strict_allowlist/strictallowlist/WhitelistMode", "has", "(Lcom/example/strict_allowlist/strictallowlist/WhitelistMode$Flag;)Z"⟩ : MethodName) prog_37_method_3_code 2 (some .boolean) :: ws) ({ frames := 0, cells := 0, slots := 0, locals := 0 } : Room)) (fun a U => a = #[(.ref a1), (.ref a2)] ∧ Z.Warmed39 U.vm ∧ U.heap = h0) (fun _ _ _ _ _ => True) (fun _ U o U' => ∃ v L, o = .returned v ∧ Qha Z a1 a2 val bit h0 n0 v U'.heap L ∧ FrameEnd U o U' L ({ frames := 0, cells := 0, slots := 0, locals := 0 } : Room).cells ({ frames := 0, cells := 0, slots := 0, locals := 0 } : Room).slots) := by
  refine MetFree.of_bodySF (plainFor_of_name pn_4) hisR ?_
  intro p e s m args below meth c s₁ Bd hml0 hP hK
  obtain ⟨rfl, hZ, hh⟩ := hP
  have hx := Bd.exec
  have hby := Bd.bytes
  have hml : c.maxLocals = 2 := hml0
  have hown : s.vm.findClass "com/example/strict_allowlist/strictallowlist/WhitelistMode" = some m.cls := findClass_of_methodNamed Bd.named
  have hnm := (name_of_methodNamed Bd.named Bd.method).1
  have X0 : Stand p l e ({ frames := 0, cells := 0, slots := 0, locals := 0 } : Room) s m #[(.ref a1), (.ref a2)] below meth c s₁ [] 0 0 := Stand.of_body Bd
  have e0 : s₁.heap = h0 := by rw [← hh, Bd.state]; rfl
  have N0 := Fr.nil n0
  have pre0 : ∀ t, Steps p.tables e below (s₁.setTop (mkF m 0 #[.val (.ref a1), .val (.ref a2)] [])) t → Steps p.tables e below (s₁.setTop (entryFrame m #[(.ref a1), (.ref a2)] 2)) t := fun t k => castTop (ef_ha m a1 a2) k
  obtain ⟨T1, X1, e1, st1⟩ := getF X0 hx hZ hown (host := "") (Or.inl (hw _ (List.mem_of_getElem? (i := 19) rfl))) Via.refl e0 F_value_a1 (g := (mkF m 1 #[.val (.ref a1), .val (.ref a2)] [(.ref a1)])) rfl rfl (hb hby d5_1)
  have pre2 : ∀ t, Steps p.tables e below (T1.setTop (mkF m 9 #[.val (.ref a1), .val (.ref a2)] [(.int (val &&& bit))])) t → Steps p.tables e below (s₁.setTop (entryFrame m #[(.ref a1), (.ref a2)] 2)) t := fun t k => pre0 t (by
    show Steps p.tables e below (s₁.setTop (mkF m 0 #[.val (.ref a1), .val (.ref a2)] [])) _
    refine XS.aloadN X0.here hx rfl (hb hby d5_0) rfl rfl ?_
    show Steps p.tables e below (s₁.setTop (mkF m 1 #[.val (.ref a1), .val (.ref a2)] [(.ref a1)])) _
    refine st1 _ ?_
    show Steps p.tables e below (T1.setTop (mkF m 4 #[.val (.ref a1), .val (.ref a2)] [(.int val)])) _
    refine XS.aloadN X1.here hx rfl (hb hby d5_4) rfl rfl ?_
    show Steps p.tables e below (T1.setTop (mkF m 5 #[.val (.ref a1), .val (.ref a2)] [(.ref a2), (.int val)])) _
    refine own_getR X1 hx hZ hown (hw _ (List.mem_of_getElem? (i := 29) rfl)) e1 F_bit_a2 (g := (mkF m 5 #[.val (.ref a1), .val (.ref a2)] [(.ref a2), (.int val)])) rfl rfl (hb hby d5_5) _ ?_
    show Steps p.tables e below (T1.setTop (mkF m 8 #[.val (.ref a1), .val (.ref a2)] [(.int bit), (.int val)])) _
    refine XS.iand X1.here hx rfl (hb hby d5_8) rfl ?_
    exact k)
  by_cases hc3 : (val &&& bit) = (0 : Int32)
  ·  -- pc 9: (val &&& bit) = (0 : Int32)
    obtain ⟨fs, hr, hrun, hended, hW, hsame⟩ := X1.leave (v := some (.int (0 : Int32))) (fun h => by rw [Bd.returns] at h; cases h) Bd.notSynchronized
    refine ⟨_, _, pre2 _ ?_, hrun, hended, _, _, rfl, ?_, ⟨_, rfl⟩, hW, hsame.mono (by decide) (by decide)⟩
    · show Steps p.tables e below (T1.setTop (mkF m 9 #[.val (.ref a1), .val (.ref a2)] [(.int (val &&& bit))])) _
      refine XS.ifYes X1.here hx rfl (pc0 := 9) (pc' := 16) rfl (hb hby d5_9) rfl ((if0 _ _).trans (teq hc3).1) (by decide) (by decide) ?_
      show Steps p.tables e below (T1.setTop (mkF m 16 #[.val (.ref a1), .val (.ref a2)] [])) _
      refine XS.iconst X1.here hx rfl (hb hby d5_16) ?_
      show Steps p.tables e below (T1.setTop (mkF m 17 #[.val (.ref a1), .val (.ref a2)] [(.int (0 : Int32))])) _
      exact retN X1 hx (t := .boolean) Bd.returns (by simp) (hb hby d5_17) hr
    · show Qha Z a1 a2 val bit h0 n0 _ T1.heap _
      rw [e1]
      exact ⟨(by unfold fha; rw [if_pos hc3]), N0, rfl⟩
  ·  -- pc 9: not (val &&& bit) = (0 : Int32)
    obtain ⟨fs, hr, hrun, hended, hW, hsame⟩ := X1.leave (v := some (.int (1 : Int32))) (fun h => by rw [Bd.returns] at h; cases h) Bd.notSynchronized
    refine ⟨_, _, pre2 _ ?_, hrun, hended, _, _, rfl, ?_, ⟨_, rfl⟩, hW, hsame.mono (by decide) (by decide)⟩
    · show Steps p.tables e below (T1.setTop (mkF m 9 #[.val (.ref a1), .val (.ref a2)] [(.int (val &&& bit))])) _
      refine XS.ifNo X1.here hx rfl (hb hby d5_9) rfl ((if0 _ _).trans (feq hc3).1) ?_
      show Steps p.tables e below (T1.setTop (mkF m 12 #[.val (.ref a1), .val (.ref a2)] [])) _
      refine XS.iconst X1.here hx rfl (hb hby d5_12) ?_
      show Steps p.tables e below (T1.setTop (mkF m 13 #[.val (.ref a1), .val (.ref a2)] [(.int (1 : Int32))])) _
      refine XS.goto X1.here hx rfl (pc0 := 13) (pc' := 17) rfl (hb hby d5_13) (by decide) (by decide) ?_
      show Steps p.tables e below (T1.setTop (mkF m 17 #[.val (.ref a1), .val (.ref a2)] [(.int (1 : Int32))])) _
      exact retN X1 hx (t := .boolean) Bd.returns (by simp) (hb hby d5_17) hr
    · show Qha Z a1 a2 val bit h0 n0 _ T1.heap _
      rw [e1]
      exact ⟨(by unfold fha; rw [if_neg hc3]), N0, rfl⟩
theorem own_v (x : Int32) : ∃ n : Fin 32, x &&& (31 : Int32) = Int32.ofNat n.val := by
  have e := c_mask x (31 : Int32) 5 (by decide) (by decide)
  generalize x &&& (31 : Int32) = v at *
  have h0 : 0 ≤ v.toInt := by omega
  have h1 : v.toInt < 32 := by omega
  refine ⟨⟨v.toInt.toNat, by omega⟩, ?_⟩
  rw [← Int32.toInt_inj]
  show v.toInt = (Int32.ofNat v.toInt.toNat).toInt
  rw [Int32.toInt_ofNat_of_lt (by omega)]
  omega
theorem own_ss (x : Int32) : ¬ ((fss (x &&& (31 : Int32))) = (0 : Int32)) := by
  obtain ⟨n, hn⟩ := own_v x
  rw [hn]
  clear hn
  revert n
  decide
theorem own_b (x : Int32) : (fha (x &&& (31 : Int32)) (1 : Int32) = if ((x &&& (31 : Int32)) % (2 : Int32)) = (1 : Int32) then (1 : Int32) else (0 : Int32)) ∧ (fha (x &&& (31 : Int32)) (2 : Int32) = if (((x &&& (31 : Int32)) / (2 : Int32)) % (2 : Int32)) = (1 : Int32) then (1 : Int32) else (0 : Int32)) ∧ (fha (x &&& (31 : Int32)) (4 : Int32) = if (((x &&& (31 : Int32)) / (4 : Int32)) % (2 : Int32)) = (1 : Int32) then (1 : Int32) else (0 : Int32)) ∧ (fha (x &&& (31 : Int32)) (8 : Int32) = if (((x &&& (31 : Int32)) / (8 : Int32)) % (2 : Int32)) = (1 : Int32) then (1 : Int32) else (0 : Int32)) ∧ (fha (x &&& (31 : Int32)) (16 : Int32) = if ((x &&& (31 : Int32)) / (16 : Int32)) = (1 : Int32) then (1 : Int32) else (0 : Int32)) := by
  obtain ⟨n, hn⟩ := own_v x
  rw [hn]
  clear hn
  revert n
  decide
theorem pn_36 : plainName "com/example/strict_allowlist/strictallowlist/WhitelistModeHasPinLaw" = true := by first | (simp [plainName, overriddenIn]; done) | decide +kernel
theorem pd_37 : parseMethodDescriptor "(I)V" = some ⟨[.int], none⟩ := by decide +kernel
theorem pd_38 : parseMethodDescriptor "(Lcom/example/strict_allowlist/strictallowlist/WhitelistMode$Flag;)Z" = some ⟨[(.object "com/example/strict_allowlist/strictallowlist/WhitelistMode$Flag")], some .boolean⟩ := by decide +kernel
theorem ef_0 (m : MethodId) (x0 : Int32) : entryFrame m #[(.int x0)] maxLocals = mkF m 0 #[.val (.int x0), .unset, .unset, .unset, .unset, .unset, .unset, .unset] [] := by first | (simp [entryFrame, mkF, argsToLocals, Value.category, maxLocals]; done) | rfl
def Q0 (Z : State) (p1 : Int32) (w_ENFORCE : Addr) (w_LOG : Addr) (w_IMPLICIT_ALL : Addr) (w_IMPLICIT_SYSTEM : Addr) (w_IGNORE_OTA : Addr) (h0 : Heap) (n0 : Nat) (v : Option Value) (h : Heap) (L : List Loc) : Prop := v = some (.int (1 : Int32)) ∧ Fr n0 L
set_option maxRecDepth 65536 in
set_option maxHeartbeats 40000000 in
theorem rm0 (l : Launch) (Z : State) (a0 : Array Value) (hw : ∀ d ∈ tables_1, d.before a0 Z = true) (ws : List Jvm.Cond) (p1 : Int32) (w_ENFORCE : Addr) (w_LOG : Addr) (w_IMPLICIT_ALL : Addr) (w_IMPLICIT_SYSTEM : Addr) (w_IGNORE_OTA : Addr) (h0 : Heap) (n0 : Nat) (Z0 : n0 ≤ h0.size) (O0 : Old Z n0 h0) (S_ENFORCE : Sta Z Z.heap "com/example/strict_allowlist/strictallowlist/WhitelistMode$Flag" "ENFORCE" "Lcom/example/strict_allowlist/strictallowlist/WhitelistMode$Flag;" (.ref w_ENFORCE)) (S_LOG : Sta Z Z.heap "com/example/strict_allowlist/strictallowlist/WhitelistMode$Flag" "LOG" "Lcom/example/strict_allowlist/strictallowlist/WhitelistMode$Flag;" (.ref w_LOG)) (S_IMPLICIT_ALL : Sta Z Z.heap "com/example/strict_allowlist/strictallowlist/WhitelistMode$Flag" "IMPLICIT_ALL" "Lcom/example/strict_allowlist/strictallowlist/WhitelistMode$Flag;" (.ref w_IMPLICIT_ALL)) (S_IMPLICIT_SYSTEM : Sta Z Z.heap "com/example/strict_allowlist/strictallowlist/WhitelistMode$Flag" "IMPLICIT_SYSTEM" "Lcom/example/strict_allowlist/strictallowlist/WhitelistMode$Flag;" (.ref w_IMPLICIT_SYSTEM)) (S_IGNORE_OTA : Sta Z Z.heap "com/example/strict_allowlist/strictallowlist/WhitelistMode$Flag" "IGNORE_OTA" "Lcom/example/strict_allowlist/strictallowlist/WhitelistMode$Flag;" (.ref w_IGNORE_OTA)) (E_w_ENFORCE : Exa Z Z.heap w_ENFORCE "com/example/strict_allowlist/strictallowlist/WhitelistMode$Flag") (E_w_LOG : Exa Z Z.heap w_LOG "com/example/strict_allowlist/strictallowlist/WhitelistMode$Flag") (E_w_IMPLICIT_ALL : Exa Z Z.heap w_IMPLICIT_ALL "com/example/strict_allowlist/strictallowlist/WhitelistMode$Flag") (E_w_IMPLICIT_SYSTEM : Exa Z Z.heap w_IMPLICIT_SYSTEM "com/example/strict_allowlist/strictallowlist/WhitelistMode$Flag") (E_w_IGNORE_OTA : Exa Z Z.heap w_IGNORE_OTA "com/example/strict_allowlist/strictallowlist/WhitelistMode$Flag") (F_bit_w_ENFORCE : Fld Z Z.heap w_ENFORCE "com/example/strict_allowlist/strictallowlist/WhitelistMode$Flag" "bit" "I" (.int (1 : Int32))) (F_bit_w_LOG : Fld Z Z.heap w_LOG "com/example/strict_allowlist/strictallowlist/WhitelistMode$Flag" "bit" "I" (.int (2 : Int32))) (F_bit_w_IMPLICIT_ALL : Fld Z Z.heap w_IMPLICIT_ALL "com/example/strict_allowlist/strictallowlist/WhitelistMode$Flag" "bit" "I" (.int (4 : Int32))) (F_bit_w_IMPLICIT_SYSTEM : Fld Z Z.heap w_IMPLICIT_SYSTEM "com/example/strict_allowlist/strictallowlist/WhitelistMode$Flag" "bit" "I" (.int (8 : Int32))) (F_bit_w_IGNORE_OTA : Fld Z Z.heap w_IGNORE_OTA "com/example/strict_allowlist/strictallowlist/WhitelistMode$Flag" "bit" "I" (.int (16 : Int32))) (S_ALL_FLAGS : Sta Z Z.heap "com/example/strict_allowlist/strictallowlist/WhitelistMode" "ALL_FLAGS" "I" (.int (31 : Int32))) :
    MetFree l x (head1 (Jvm.Cond.code x code maxLocals ret :: ws) room_1) (fun a U => a = #[(.int p1)] ∧ Z.Warmed39 U.vm ∧ U.heap = h0) (fun _ _ _ _ _ => True) (fun _ U o U' => ∃ v L, o = .returned v ∧ Q0 Z p1 w_ENFORCE w_LOG w_IMPLICIT_ALL w_IMPLICIT_SYSTEM w_IGNORE_OTA h0 n0 v U'.heap L ∧ FrameEnd U o U' L room_1.cells room_1.slots) := by
  refine MetFree.of_bodySF (plainFor_of_name pn_36) hisR ?_
  intro p e s m args below meth c s₁ Bd hml0 hP hK
  obtain ⟨rfl, hZ, hh⟩ := hP
  have hx := Bd.exec
  have hby := Bd.bytes
  have hml : c.maxLocals = 8 := hml0
  have hown : s.vm.findClass "com/example/strict_allowlist/strictallowlist/WhitelistModeHasPinLaw" = some m.cls := findClass_of_methodNamed Bd.named
  have hnm := (name_of_methodNamed Bd.named Bd.method).1
  have X0 : Stand p l e room_1 s m #[(.int p1)] below meth c s₁ [] 0 0 := Stand.of_body Bd
  have e0 : s₁.heap = h0 := by rw [← hh, Bd.state]; rfl
  have N0 := Fr.nil n0
  have pre0 : ∀ t, Steps p.tables e below (s₁.setTop (mkF m 0 #[.val (.int p1), .unset, .unset, .unset, .unset, .unset, .unset, .unset] [])) t → Steps p.tables e below (s₁.setTop (entryFrame m #[(.int p1)] maxLocals)) t := fun t k => castTop (ef_0 m p1) k
  obtain ⟨T1, h1, X1, e1, E1, A1, D1, -, st1⟩ := newO X0 hx hZ hown (hw _ (List.mem_of_getElem? (i := 0) rfl)) (hw _ (List.mem_of_getElem? (i := 1) rfl)) (hw _ (List.mem_of_getElem? (i := 2) rfl)) e0 (g := (mkF m 5 #[.val (.int p1), .val (.int (p1 &&& (31 : Int32))), .unset, .unset, .unset, .unset, .unset, .unset] [])) rfl (hb hby at_5) (by decide) (by decide)
  obtain ⟨b1, g1⟩ : ∃ z, z = h0.size := ⟨_, rfl⟩
  rw [← g1] at A1 D1 st1
  have g_b1 : n0 ≤ b1 := Nat.le_trans Z0 (Nat.le_of_eq g1.symm)
  have ne2 : w_ENFORCE ≠ b1 := Nat.ne_of_lt (Nat.lt_of_lt_of_le (E_w_ENFORCE.ext O0.2).lt (Nat.le_of_eq g1.symm))
  have ne3 : w_LOG ≠ b1 := Nat.ne_of_lt (Nat.lt_of_lt_of_le (E_w_LOG.ext O0.2).lt (Nat.le_of_eq g1.symm))
  have ne4 : w_IMPLICIT_ALL ≠ b1 := Nat.ne_of_lt (Nat.lt_of_lt_of_le (E_w_IMPLICIT_ALL.ext O0.2).lt (Nat.le_of_eq g1.symm))
  have ne5 : w_IMPLICIT_SYSTEM ≠ b1 := Nat.ne_of_lt (Nat.lt_of_lt_of_le (E_w_IMPLICIT_SYSTEM.ext O0.2).lt (Nat.le_of_eq g1.symm))
  have ne6 : w_IGNORE_OTA ≠ b1 := Nat.ne_of_lt (Nat.lt_of_lt_of_le (E_w_IGNORE_OTA.ext O0.2).lt (Nat.le_of_eq g1.symm))
  have f7 := O0.ext E1
  have zs8 : n0 ≤ h1.size := Nat.le_trans Z0 E1.1
  have F_value_b1 : Fld Z h1 b1 "com/example/strict_allowlist/strictallowlist/WhitelistMode" "value" "I" (.int (0 : Int32)) := D1 (Or.inr (hw _ (List.mem_of_getElem? (i := 20) rfl))) (ty := .int) (by decide)
  -- pc 10: WhitelistMode.<init> by rmini
  obtain ⟨_, _, ⟨T9, L9, k9, n9⟩, -, X9, ⟨Lc9, hQ9, l9, y9, z9⟩, st9⟩ := X1.specialBack hx (y := (⟨"com/example/strict_allowlist/strictallowlist/WhitelistMode", "<init>", "(I)V"⟩ : MethodName)) rfl hown (mvT hZ (hw _ (List.mem_of_getElem? (i := 3) rfl))) (mvT hZ (hw _ (List.mem_of_getElem? (i := 4) rfl))) (mvT hZ (hw _ (List.mem_of_getElem? (i := 5) rfl))) (by decide) (backOf (W := 1) (rmini l Z a0 hw [] b1 (p1 &&& (31 : Int32)) (0 : Int32) h1 n0 zs8 A1 F_value_b1 g_b1 (S_ALL_FLAGS.ext f7.2) (own_ss _)) hZ (hw _ (List.mem_of_getElem? (i := 5) rfl)) (hw _ (List.mem_of_getElem? (i := 2) rfl)) (by decide) (by decide)) (g := (mkF m 10 #[.val (.int p1), .val (.int (p1 &&& (31 : Int32))), .unset, .unset, .unset, .unset, .unset, .unset] [(.int (p1 &&& (31 : Int32))), (.ref b1), (.ref b1)])) rfl (by rw [hml]; rfl) (Steps.refl _) (a := b1) (argsL := [(.int (p1 &&& (31 : Int32)))]) (rest := [(.ref b1)]) (lenOf pd_37 rfl) rfl (by show 2 * 0 + _ ≤ _; exact Nat.le_of_eq rfl) (hb hby at_10) (fun _ _ => ⟨rfl, e1, (by decide : 1 + 0 ≤ _), (by decide : 1 + 0 ≤ _)⟩)
  dsimp only [Pt.U, Pt.locs, Pt.cells, Pt.slots] at X9 l9 y9 z9 st9 hQ9
  subst l9 y9 z9
  obtain ⟨rfl, N9q, K9q, o9_0, o9_1⟩ := hQ9
  have N10 := Fr.app N0 N9q
  have f11 := f7.keep K9q (allS g_b1 all0)
  have f12 := A1.keep K9q
  have zs14 : n0 ≤ T9.heap.size := Nat.le_trans zs8 K9q.1
  obtain ⟨T15, X15, e15, st15⟩ := getS2 X9 hx hZ hown (host := "") (Or.inl (hw _ (List.mem_of_getElem? (i := 21) rfl))) Via.refl rfl (S_ENFORCE.ext f11.2) (g := (mkF m 15 #[.val (.int p1), .val (.int (p1 &&& (31 : Int32))), .val (.ref b1), .unset, .unset, .unset, .unset, .unset] [(.ref b1)])) rfl (hb hby at_15)
  -- pc 18: WhitelistMode.has by rmha
  obtain ⟨cq16, kq16, q16a, q16b, q16c⟩ := isOf hZ e15 o9_0
  obtain ⟨_, _, ⟨T16, L16, k16, n16⟩, -, X16, ⟨Lc16, hQ16, l16, y16, z16⟩, st16⟩ := X15.virtualBack hx (y := (⟨"com/example/strict_allowlist/strictallowlist/WhitelistMode", "has", "(Lcom/example/strict_allowlist/strictallowlist/WhitelistMode$Flag;)Z"⟩ : MethodName)) (z := (⟨"com/example/strict_allowlist/strictallowlist/WhitelistMode", "has", "(Lcom/example/strict_allowlist/strictallowlist/WhitelistMode$Flag;)Z"⟩ : MethodName)) hown (mvT hZ (hw _ (List.mem_of_getElem? (i := 24) rfl))) (mvT hZ (hw _ (List.mem_of_getElem? (i := 25) rfl))) (notFace_of_selects (args := #[]) (mvT hZ (hw _ (List.mem_of_getElem? (i := 27) rfl)))) (mvT hZ (hw _ (List.mem_of_getElem? (i := 27) rfl))) (mvT hZ (hw _ (List.mem_of_getElem? (i := 26) rfl))) (by decide) (backOf (W := 0) (rmha l Z a0 hw [] b1 w_ENFORCE (p1 &&& (31 : Int32)) (1 : Int32) T9.heap n0 zs14 o9_1 (F_bit_w_ENFORCE.ext f11.2)) hZ (hw _ (List.mem_of_getElem? (i := 28) rfl)) (hw _ (List.mem_of_getElem? (i := 2) rfl)) (by decide) (by decide)) q16a q16c (g := (mkF m 18 #[.val (.int p1), .val (.int (p1 &&& (31 : Int32))), .val (.ref b1), .unset, .unset, .unset, .unset, .unset] [(.ref w_ENFORCE), (.ref b1)])) rfl (by rw [hml]; rfl) (Steps.refl _) (argsL := [(.ref w_ENFORCE)]) (rest := []) (lenOf pd_38 rfl) rfl (by show 2 * 0 + _ ≤ _; exact Nat.le_of_eq rfl) (hb hby at_18) (fun _ _ => ⟨rfl, e15, (by decide : 1 + 0 ≤ _), (by decide : 1 + 0 ≤ _)⟩)
  dsimp only [Pt.U, Pt.locs, Pt.cells, Pt.slots] at X16 l16 y16 z16 st16 hQ16
  subst l16 y16 z16
  obtain ⟨rfl, N16q, e16⟩ := hQ16
  have N17 := Fr.app N10 N16q
  have pre18 : ∀ t, Steps p.tables e below (T16.setTop (mkF m 25 #[.val (.int p1), .val (.int (p1 &&& (31 : Int32))), .val (.ref b1), .unset, .unset, .unset, .unset, .unset] [(.int (1 : Int32)), (.int ((p1 &&& (31 : Int32)) % (2 : Int32))), (.int (fha (p1 &&& (31 : Int32)) (1 : Int32)))])) t → Steps p.tables e below (s₁.setTop (entryFrame m #[(.int p1)] maxLocals)) t := fun t k => pre0 t (by
    show Steps p.tables e below (s₁.setTop (mkF m 0 #[.val (.int p1), .unset, .unset, .unset, .unset, .unset, .unset, .unset] [])) _
    refine XS.iloadN X0.here hx rfl (hb hby at_0) rfl ?_
    show Steps p.tables e below (s₁.setTop (mkF m 1 #[.val (.int p1), .unset, .unset, .unset, .unset, .unset, .unset, .unset] [(.int p1)])) _
    refine XS.bipush X0.here hx rfl (hb hby at_1) ?_
    show Steps p.tables e below (s₁.setTop (mkF m 3 #[.val (.int p1), .unset, .unset, .unset, .unset, .unset, .unset, .unset] [(.int (31 : Int32)), (.int p1)])) _
    refine XS.iand X0.here hx rfl (hb hby at_3) rfl ?_
    show Steps p.tables e below (s₁.setTop (mkF m 4 #[.val (.int p1), .unset, .unset, .unset, .unset, .unset, .unset, .unset] [(.int (p1 &&& (31 : Int32)))])) _
    refine XS.istoreN X0.here hx rfl (hb hby at_4) rfl (l' := #[.val (.int p1), .val (.int (p1 &&& (31 : Int32))), .unset, .unset, .unset, .unset, .unset, .unset]) rfl ?_
    show Steps p.tables e below (s₁.setTop (mkF m 5 #[.val (.int p1), .val (.int (p1 &&& (31 : Int32))), .unset, .unset, .unset, .unset, .unset, .unset] [])) _
    refine st1 _ ?_
    show Steps p.tables e below (T1.setTop (mkF m 8 #[.val (.int p1), .val (.int (p1 &&& (31 : Int32))), .unset, .unset, .unset, .unset, .unset, .unset] [(.ref b1)])) _
    refine XS.dup X1.here hx rfl (hb hby at_8) rfl rfl ?_
    show Steps p.tables e below (T1.setTop (mkF m 9 #[.val (.int p1), .val (.int (p1 &&& (31 : Int32))), .unset, .unset, .unset, .unset, .unset, .unset] [(.ref b1), (.ref b1)])) _
    refine XS.iloadN X1.here hx rfl (hb hby at_9) rfl ?_
    show Steps p.tables e below (T1.setTop (mkF m 10 #[.val (.int p1), .val (.int (p1 &&& (31 : Int32))), .unset, .unset, .unset, .unset, .unset, .unset] [(.int (p1 &&& (31 : Int32))), (.ref b1), (.ref b1)])) _
    refine st9.trans ?_
    show Steps p.tables e below (T9.setTop (mkF m 13 #[.val (.int p1), .val (.int (p1 &&& (31 : Int32))), .unset, .unset, .unset, .unset, .unset, .unset] [(.ref b1)])) _
    refine XS.astoreN X9.here hx rfl (hb hby at_13) rfl rfl (l' := #[.val (.int p1), .val (.int (p1 &&& (31 : Int32))), .val (.ref b1), .unset, .unset, .unset, .unset, .unset]) rfl ?_
    show Steps p.tables e below (T9.setTop (mkF m 14 #[.val (.int p1), .val (.int (p1 &&& (31 : Int32))), .val (.ref b1), .unset, .unset, .unset, .unset, .unset] [])) _
    refine XS.aloadN X9.here hx rfl (hb hby at_14) rfl rfl ?_
    show Steps p.tables e below (T9.setTop (mkF m 15 #[.val (.int p1), .val (.int (p1 &&& (31 : Int32))), .val (.ref b1), .unset, .unset, .unset, .unset, .unset] [(.ref b1)])) _
    refine st15 _ ?_
    show Steps p.tables e below (T15.setTop (mkF m 18 #[.val (.int p1), .val (.int (p1 &&& (31 : Int32))), .val (.ref b1), .unset, .unset, .unset, .unset, .unset] [(.ref w_ENFORCE), (.ref b1)])) _
    refine st16.trans ?_
    show Steps p.tables e below (T16.setTop (mkF m 21 #[.val (.int p1), .val (.int (p1 &&& (31 : Int32))), .val (.ref b1), .unset, .unset, .unset, .unset, .unset] [(.int (fha (p1 &&& (31 : Int32)) (1 : Int32)))])) _
    refine XS.iloadN X16.here hx rfl (hb hby at_21) rfl ?_
    show Steps p.tables e below (T16.setTop (mkF m 22 #[.val (.int p1), .val (.int (p1 &&& (31 : Int32))), .val (.ref b1), .unset, .unset, .unset, .unset, .unset] [(.int (p1 &&& (31 : Int32))), (.int (fha (p1 &&& (31 : Int32)) (1 : Int32)))])) _
    refine XS.iconst X16.here hx rfl (hb hby at_22) ?_
    show Steps p.tables e below (T16.setTop (mkF m 23 #[.val (.int p1), .val (.int (p1 &&& (31 : Int32))), .val (.ref b1), .unset, .unset, .unset, .unset, .unset] [(.int (2 : Int32)), (.int (p1 &&& (31 : Int32))), (.int (fha (p1 &&& (31 : Int32)) (1 : Int32)))])) _
    refine iremM X16 hx rfl (hb hby at_23) rfl (by decide) ?_
    show Steps p.tables e below (T16.setTop (mkF m 24 #[.val (.int p1), .val (.int (p1 &&& (31 : Int32))), .val (.ref b1), .unset, .unset, .unset, .unset, .unset] [(.int ((p1 &&& (31 : Int32)) % (2 : Int32))), (.int (fha (p1 &&& (31 : Int32)) (1 : Int32)))])) _
    refine XS.iconst X16.here hx rfl (hb hby at_24) ?_
    exact k)
  refine cps (A := ∃ (lcj19 : List Loc) (Tj19 : State), Fr n0 lcj19 ∧ Stand p l e room_1 s m #[(.int p1)] below meth c Tj19 lcj19 1 1 ∧ Tj19.heap = T9.heap ∧ (∀ t, Steps p.tables e below (Tj19.setTop (mkF m 41 #[.val (.int p1), .val (.int (p1 &&& (31 : Int32))), .val (.ref b1), .unset, .unset, .unset, .unset, .unset] [(.int (1 : Int32))])) t → Steps p.tables e below (s₁.setTop (entryFrame m #[(.int p1)] maxLocals)) t)) (fun kj => ?_) ?_
  ·  -- to the meeting at pc 41
    by_cases hc20 : ((p1 &&& (31 : Int32)) % (2 : Int32)) = (1 : Int32)
    ·  -- pc 25: ((p1 &&& (31 : Int32)) % (2 : Int32)) = (1 : Int32)
      have hs21 : (fha (p1 &&& (31 : Int32)) (1 : Int32)) = (1 : Int32) := (own_b _).1.trans (if_pos hc20)
      have pre22 : ∀ t, Steps p.tables e below (T16.setTop (mkF m 41 #[.val (.int p1), .val (.int (p1 &&& (31 : Int32))), .val (.ref b1), .unset, .unset, .unset, .unset, .unset] [(.int (1 : Int32))])) t → Steps p.tables e below (s₁.setTop (entryFrame m #[(.int p1)] maxLocals)) t := fun t k => pre18 t (by
        show Steps p.tables e below (T16.setTop (mkF m 25 #[.val (.int p1), .val (.int (p1 &&& (31 : Int32))), .val (.ref b1), .unset, .unset, .unset, .unset, .unset] [(.int (1 : Int32)), (.int ((p1 &&& (31 : Int32)) % (2 : Int32))), (.int (fha (p1 &&& (31 : Int32)) (1 : Int32)))])) _
        refine XS.icmpNo X16.here hx rfl (hb hby at_25) rfl (teq hc20).2 ?_
        show Steps p.tables e below (T16.setTop (mkF m 28 #[.val (.int p1), .val (.int (p1 &&& (31 : Int32))), .val (.ref b1), .unset, .unset, .unset, .unset, .unset] [(.int (fha (p1 &&& (31 : Int32)) (1 : Int32)))])) _
        refine XS.iconst X16.here hx rfl (hb hby at_28) ?_
        show Steps p.tables e below (T16.setTop (mkF m 29 #[.val (.int p1), .val (.int (p1 &&& (31 : Int32))), .val (.ref b1), .unset, .unset, .unset, .unset, .unset] [(.int (1 : Int32)), (.int (fha (p1 &&& (31 : Int32)) (1 : Int32)))])) _
        refine XS.goto X16.here hx rfl (pc0 := 29) (pc' := 33) rfl (hb hby at_29) (by decide) (by decide) ?_
        show Steps p.tables e below (T16.setTop (mkF m 33 #[.val (.int p1), .val (.int (p1 &&& (31 : Int32))), .val (.ref b1), .unset, .unset, .unset, .unset, .unset] [(.int (1 : Int32)), (.int (fha (p1 &&& (31 : Int32)) (1 : Int32)))])) _
        refine XS.icmpNo X16.here hx rfl (hb hby at_33) rfl (teq hs21).2 ?_
        show Steps p.tables e below (T16.setTop (mkF m 36 #[.val (.int p1), .val (.int (p1 &&& (31 : Int32))), .val (.ref b1), .unset, .unset, .unset, .unset, .unset] [])) _
        refine XS.iconst X16.here hx rfl (hb hby at_36) ?_
        show Steps p.tables e below (T16.setTop (mkF m 37 #[.val (.int p1), .val (.int (p1 &&& (31 : Int32))), .val (.ref b1), .unset, .unset, .unset, .unset, .unset] [(.int (1 : Int32))])) _
        refine XS.goto X16.here hx rfl (pc0 := 37) (pc' := 41) rfl (hb hby at_37) (by decide) (by decide) ?_
        exact k)
      exact kj ⟨_, T16, N17, X16, e16, pre22⟩
    ·  -- pc 25: not ((p1 &&& (31 : Int32)) % (2 : Int32)) = (1 : Int32)
      have hs23 : (fha (p1 &&& (31 : Int32)) (1 : Int32)) = (0 : Int32) := (own_b _).1.trans (if_neg hc20)
      have pre24 : ∀ t, Steps p.tables e below (T16.setTop (mkF m 41 #[.val (.int p1), .val (.int (p1 &&& (31 : Int32))), .val (.ref b1), .unset, .unset, .unset, .unset, .unset] [(.int (1 : Int32))])) t → Steps p.tables e below (s₁.setTop (entryFrame m #[(.int p1)] maxLocals)) t := fun t k => pre18 t (by
        show Steps p.tables e below (T16.setTop (mkF m 25 #[.val (.int p1), .val (.int (p1 &&& (31 : Int32))), .val (.ref b1), .unset, .unset, .unset, .unset, .unset] [(.int (1 : Int32)), (.int ((p1 &&& (31 : Int32)) % (2 : Int32))), (.int (fha (p1 &&& (31 : Int32)) (1 : Int32)))])) _
        refine XS.icmpYes X16.here hx rfl (pc0 := 25) (pc' := 32) rfl (hb hby at_25) rfl (feq hc20).2 (by decide) (by decide) ?_
        show Steps p.tables e below (T16.setTop (mkF m 32 #[.val (.int p1), .val (.int (p1 &&& (31 : Int32))), .val (.ref b1), .unset, .unset, .unset, .unset, .unset] [(.int (fha (p1 &&& (31 : Int32)) (1 : Int32)))])) _
        refine XS.iconst X16.here hx rfl (hb hby at_32) ?_
        show Steps p.tables e below (T16.setTop (mkF m 33 #[.val (.int p1), .val (.int (p1 &&& (31 : Int32))), .val (.ref b1), .unset, .unset, .unset, .unset, .unset] [(.int (0 : Int32)), (.int (fha (p1 &&& (31 : Int32)) (1 : Int32)))])) _
        refine XS.icmpNo X16.here hx rfl (hb hby at_33) rfl (teq hs23).2 ?_
        show Steps p.tables e below (T16.setTop (mkF m 36 #[.val (.int p1), .val (.int (p1 &&& (31 : Int32))), .val (.ref b1), .unset, .unset, .unset, .unset, .unset] [])) _
        refine XS.iconst X16.here hx rfl (hb hby at_36) ?_
        show Steps p.tables e below (T16.setTop (mkF m 37 #[.val (.int p1), .val (.int (p1 &&& (31 : Int32))), .val (.ref b1), .unset, .unset, .unset, .unset, .unset] [(.int (1 : Int32))])) _
        refine XS.goto X16.here hx rfl (pc0 := 37) (pc' := 41) rfl (hb hby at_37) (by decide) (by decide) ?_
        exact k)
      exact kj ⟨_, T16, N17, X16, e16, pre24⟩
  ·  -- from the meeting at pc 41
    rintro ⟨lcj19, Tj19, Nj19, Xj19, ej19, prej19⟩
    obtain ⟨T25, X25, e25, st25⟩ := getS2 Xj19 hx hZ hown (host := "") (Or.inl (hw _ (List.mem_of_getElem? (i := 31) rfl))) Via.refl ej19 (S_LOG.ext f11.2) (g := (mkF m 43 #[.val (.int p1), .val (.int (p1 &&& (31 : Int32))), .val (.ref b1), .val (.int (1 : Int32)), .unset, .unset, .unset, .unset] [(.ref b1)])) rfl (hb hby at_43)
    -- pc 46: WhitelistMode.has by rmha
    obtain ⟨cq26, kq26, q26a, q26b, q26c⟩ := isOf hZ e25 o9_0
    obtain ⟨_, _, ⟨T26, L26, k26, n26⟩, -, X26, ⟨Lc26, hQ26, l26, y26, z26⟩, st26⟩ := X25.virtualBack hx (y := (⟨"com/example/strict_allowlist/strictallowlist/WhitelistMode", "has", "(Lcom/example/strict_allowlist/strictallowlist/WhitelistMode$Flag;)Z"⟩ : MethodName)) (z := (⟨"com/example/strict_allowlist/strictallowlist/WhitelistMode", "has", "(Lcom/example/strict_allowlist/strictallowlist/WhitelistMode$Flag;)Z"⟩ : MethodName)) hown (mvT hZ (hw _ (List.mem_of_getElem? (i := 24) rfl))) (mvT hZ (hw _ (List.mem_of_getElem? (i := 25) rfl))) (notFace_of_selects (args := #[]) (mvT hZ (hw _ (List.mem_of_getElem? (i := 27) rfl)))) (mvT hZ (hw _ (List.mem_of_getElem? (i := 27) rfl))) (mvT hZ (hw _ (List.mem_of_getElem? (i := 26) rfl))) (by decide) (backOf (W := 0) (rmha l Z a0 hw [] b1 w_LOG (p1 &&& (31 : Int32)) (2 : Int32) T9.heap n0 zs14 o9_1 (F_bit_w_LOG.ext f11.2)) hZ (hw _ (List.mem_of_getElem? (i := 28) rfl)) (hw _ (List.mem_of_getElem? (i := 2) rfl)) (by decide) (by decide)) q26a q26c (g := (mkF m 46 #[.val (.int p1), .val (.int (p1 &&& (31 : Int32))), .val (.ref b1), .val (.int (1 : Int32)), .unset, .unset, .unset, .unset] [(.ref w_LOG), (.ref b1)])) rfl (by rw [hml]; rfl) (Steps.refl _) (argsL := [(.ref w_LOG)]) (rest := []) (lenOf pd_38 rfl) rfl (by show 2 * 0 + _ ≤ _; exact Nat.le_of_eq rfl) (hb hby at_46) (fun _ _ => ⟨rfl, e25, (by decide : 1 + 0 ≤ _), (by decide : 1 + 0 ≤ _)⟩)
    dsimp only [Pt.U, Pt.locs, Pt.cells, Pt.slots] at X26 l26 y26 z26 st26 hQ26
    subst l26 y26 z26
    obtain ⟨rfl, N26q, e26⟩ := hQ26
    have N27 := Fr.app Nj19 N26q
    have pre28 : ∀ t, Steps p.tables e below (T26.setTop (mkF m 55 #[.val (.int p1), .val (.int (p1 &&& (31 : Int32))), .val (.ref b1), .val (.int (1 : Int32)), .unset, .unset, .unset, .unset] [(.int (1 : Int32)), (.int (((p1 &&& (31 : Int32)) / (2 : Int32)) % (2 : Int32))), (.int (fha (p1 &&& (31 : Int32)) (2 : Int32)))])) t → Steps p.tables e below (s₁.setTop (entryFrame m #[(.int p1)] maxLocals)) t := fun t k => prej19 t (by
      show Steps p.tables e below (Tj19.setTop (mkF m 41 #[.val (.int p1), .val (.int (p1 &&& (31 : Int32))), .val (.ref b1), .unset, .unset, .unset, .unset, .unset] [(.int (1 : Int32))])) _
      refine XS.istoreN Xj19.here hx rfl (hb hby at_41) rfl (l' := #[.val (.int p1), .val (.int (p1 &&& (31 : Int32))), .val (.ref b1), .val (.int (1 : Int32)), .unset, .unset, .unset, .unset]) rfl ?_
      show Steps p.tables e below (Tj19.setTop (mkF m 42 #[.val (.int p1), .val (.int (p1 &&& (31 : Int32))), .val (.ref b1), .val (.int (1 : Int32)), .unset, .unset, .unset, .unset] [])) _
      refine XS.aloadN Xj19.here hx rfl (hb hby at_42) rfl rfl ?_
      show Steps p.tables e below (Tj19.setTop (mkF m 43 #[.val (.int p1), .val (.int (p1 &&& (31 : Int32))), .val (.ref b1), .val (.int (1 : Int32)), .unset, .unset, .unset, .unset] [(.ref b1)])) _
      refine st25 _ ?_
      show Steps p.tables e below (T25.setTop (mkF m 46 #[.val (.int p1), .val (.int (p1 &&& (31 : Int32))), .val (.ref b1), .val (.int (1 : Int32)), .unset, .unset, .unset, .unset] [(.ref w_LOG), (.ref b1)])) _
      refine st26.trans ?_
      show Steps p.tables e below (T26.setTop (mkF m 49 #[.val (.int p1), .val (.int (p1 &&& (31 : Int32))), .val (.ref b1), .val (.int (1 : Int32)), .unset, .unset, .unset, .unset] [(.int (fha (p1 &&& (31 : Int32)) (2 : Int32)))])) _
      refine XS.iloadN X26.here hx rfl (hb hby at_49) rfl ?_
      show Steps p.tables e below (T26.setTop (mkF m 50 #[.val (.int p1), .val (.int (p1 &&& (31 : Int32))), .val (.ref b1), .val (.int (1 : Int32)), .unset, .unset, .unset, .unset] [(.int (p1 &&& (31 : Int32))), (.int (fha (p1 &&& (31 : Int32)) (2 : Int32)))])) _
      refine XS.iconst X26.here hx rfl (hb hby at_50) ?_
      show Steps p.tables e below (T26.setTop (mkF m 51 #[.val (.int p1), .val (.int (p1 &&& (31 : Int32))), .val (.ref b1), .val (.int (1 : Int32)), .unset, .unset, .unset, .unset] [(.int (2 : Int32)), (.int (p1 &&& (31 : Int32))), (.int (fha (p1 &&& (31 : Int32)) (2 : Int32)))])) _
      refine XS.idiv X26.here hx rfl (hb hby at_51) rfl (by decide) ?_
      show Steps p.tables e below (T26.setTop (mkF m 52 #[.val (.int p1), .val (.int (p1 &&& (31 : Int32))), .val (.ref b1), .val (.int (1 : Int32)), .unset, .unset, .unset, .unset] [(.int ((p1 &&& (31 : Int32)) / (2 : Int32))), (.int (fha (p1 &&& (31 : Int32)) (2 : Int32)))])) _
      refine XS.iconst X26.here hx rfl (hb hby at_52) ?_
      show Steps p.tables e below (T26.setTop (mkF m 53 #[.val (.int p1), .val (.int (p1 &&& (31 : Int32))), .val (.ref b1), .val (.int (1 : Int32)), .unset, .unset, .unset, .unset] [(.int (2 : Int32)), (.int ((p1 &&& (31 : Int32)) / (2 : Int32))), (.int (fha (p1 &&& (31 : Int32)) (2 : Int32)))])) _
      refine iremM X26 hx rfl (hb hby at_53) rfl (by decide) ?_
      show Steps p.tables e below (T26.setTop (mkF m 54 #[.val (.int p1), .val (.int (p1 &&& (31 : Int32))), .val (.ref b1), .val (.int (1 : Int32)), .unset, .unset, .unset, .unset] [(.int (((p1 &&& (31 : Int32)) / (2 : Int32)) % (2 : Int32))), (.int (fha (p1 &&& (31 : Int32)) (2 : Int32)))])) _
      refine XS.iconst X26.here hx rfl (hb hby at_54) ?_
      exact k)
    refine cps (A := ∃ (lcj29 : List Loc) (Tj29 : State), Fr n0 lcj29 ∧ Stand p l e room_1 s m #[(.int p1)] below meth c Tj29 lcj29 1 1 ∧ Tj29.heap = T9.heap ∧ (∀ t, Steps p.tables e below (Tj29.setTop (mkF m 71 #[.val (.int p1), .val (.int (p1 &&& (31 : Int32))), .val (.ref b1), .val (.int (1 : Int32)), .unset, .unset, .unset, .unset] [(.int (1 : Int32))])) t → Steps p.tables e below (s₁.setTop (entryFrame m #[(.int p1)] maxLocals)) t)) (fun kj => ?_) ?_
    ·  -- to the meeting at pc 71
      by_cases hc30 : (((p1 &&& (31 : Int32)) / (2 : Int32)) % (2 : Int32)) = (1 : Int32)
      ·  -- pc 55: (((p1 &&& (31 : Int32)) / (2 : Int32)) % (2 : Int32)) = (1 : Int32)
        have hs31 : (fha (p1 &&& (31 : Int32)) (2 : Int32)) = (1 : Int32) := (own_b _).2.1.trans (if_pos hc30)
        have pre32 : ∀ t, Steps p.tables e below (T26.setTop (mkF m 71 #[.val (.int p1), .val (.int (p1 &&& (31 : Int32))), .val (.ref b1), .val (.int (1 : Int32)), .unset, .unset, .unset, .unset] [(.int (1 : Int32))])) t → Steps p.tables e below (s₁.setTop (entryFrame m #[(.int p1)] maxLocals)) t := fun t k => pre28 t (by
          show Steps p.tables e below (T26.setTop (mkF m 55 #[.val (.int p1), .val (.int (p1 &&& (31 : Int32))), .val (.ref b1), .val (.int (1 : Int32)), .unset, .unset, .unset, .unset] [(.int (1 : Int32)), (.int (((p1 &&& (31 : Int32)) / (2 : Int32)) % (2 : Int32))), (.int (fha (p1 &&& (31 : Int32)) (2 : Int32)))])) _
          refine XS.icmpNo X26.here hx rfl (hb hby at_55) rfl (teq hc30).2 ?_
          show Steps p.tables e below (T26.setTop (mkF m 58 #[.val (.int p1), .val (.int (p1 &&& (31 : Int32))), .val (.ref b1), .val (.int (1 : Int32)), .unset, .unset, .unset, .unset] [(.int (fha (p1 &&& (31 : Int32)) (2 : Int32)))])) _
          refine XS.iconst X26.here hx rfl (hb hby at_58) ?_
          show Steps p.tables e below (T26.setTop (mkF m 59 #[.val (.int p1), .val (.int (p1 &&& (31 : Int32))), .val (.ref b1), .val (.int (1 : Int32)), .unset, .unset, .unset, .unset] [(.int (1 : Int32)), (.int (fha (p1 &&& (31 : Int32)) (2 : Int32)))])) _
          refine XS.goto X26.here hx rfl (pc0 := 59) (pc' := 63) rfl (hb hby at_59) (by decide) (by decide) ?_
          show Steps p.tables e below (T26.setTop (mkF m 63 #[.val (.int p1), .val (.int (p1 &&& (31 : Int32))), .val (.ref b1), .val (.int (1 : Int32)), .unset, .unset, .unset, .unset] [(.int (1 : Int32)), (.int (fha (p1 &&& (31 : Int32)) (2 : Int32)))])) _
          refine XS.icmpNo X26.here hx rfl (hb hby at_63) rfl (teq hs31).2 ?_
          show Steps p.tables e below (T26.setTop (mkF m 66 #[.val (.int p1), .val (.int (p1 &&& (31 : Int32))), .val (.ref b1), .val (.int (1 : Int32)), .unset, .unset, .unset, .unset] [])) _
          refine XS.iconst X26.here hx rfl (hb hby at_66) ?_
          show Steps p.tables e below (T26.setTop (mkF m 67 #[.val (.int p1), .val (.int (p1 &&& (31 : Int32))), .val (.ref b1), .val (.int (1 : Int32)), .unset, .unset, .unset, .unset] [(.int (1 : Int32))])) _
          refine XS.goto X26.here hx rfl (pc0 := 67) (pc' := 71) rfl (hb hby at_67) (by decide) (by decide) ?_
          exact k)
        exact kj ⟨_, T26, N27, X26, e26, pre32⟩
      ·  -- pc 55: not (((p1 &&& (31 : Int32)) / (2 : Int32)) % (2 : Int32)) = (1 : Int32)
        have hs33 : (fha (p1 &&& (31 : Int32)) (2 : Int32)) = (0 : Int32) := (own_b _).2.1.trans (if_neg hc30)
        have pre34 : ∀ t, Steps p.tables e below (T26.setTop (mkF m 71 #[.val (.int p1), .val (.int (p1 &&& (31 : Int32))), .val (.ref b1), .val (.int (1 : Int32)), .unset, .unset, .unset, .unset] [(.int (1 : Int32))])) t → Steps p.tables e below (s₁.setTop (entryFrame m #[(.int p1)] maxLocals)) t := fun t k => pre28 t (by
          show Steps p.tables e below (T26.setTop (mkF m 55 #[.val (.int p1), .val (.int (p1 &&& (31 : Int32))), .val (.ref b1), .val (.int (1 : Int32)), .unset, .unset, .unset, .unset] [(.int (1 : Int32)), (.int (((p1 &&& (31 : Int32)) / (2 : Int32)) % (2 : Int32))), (.int (fha (p1 &&& (31 : Int32)) (2 : Int32)))])) _
          refine XS.icmpYes X26.here hx rfl (pc0 := 55) (pc' := 62) rfl (hb hby at_55) rfl (feq hc30).2 (by decide) (by decide) ?_
          show Steps p.tables e below (T26.setTop (mkF m 62 #[.val (.int p1), .val (.int (p1 &&& (31 : Int32))), .val (.ref b1), .val (.int (1 : Int32)), .unset, .unset, .unset, .unset] [(.int (fha (p1 &&& (31 : Int32)) (2 : Int32)))])) _
          refine XS.iconst X26.here hx rfl (hb hby at_62) ?_
          show Steps p.tables e below (T26.setTop (mkF m 63 #[.val (.int p1), .val (.int (p1 &&& (31 : Int32))), .val (.ref b1), .val (.int (1 : Int32)), .unset, .unset, .unset, .unset] [(.int (0 : Int32)), (.int (fha (p1 &&& (31 : Int32)) (2 : Int32)))])) _
          refine XS.icmpNo X26.here hx rfl (hb hby at_63) rfl (teq hs33).2 ?_
          show Steps p.tables e below (T26.setTop (mkF m 66 #[.val (.int p1), .val (.int (p1 &&& (31 : Int32))), .val (.ref b1), .val (.int (1 : Int32)), .unset, .unset, .unset, .unset] [])) _
          refine XS.iconst X26.here hx rfl (hb hby at_66) ?_
          show Steps p.tables e below (T26.setTop (mkF m 67 #[.val (.int p1), .val (.int (p1 &&& (31 : Int32))), .val (.ref b1), .val (.int (1 : Int32)), .unset, .unset, .unset, .unset] [(.int (1 : Int32))])) _
          refine XS.goto X26.here hx rfl (pc0 := 67) (pc' := 71) rfl (hb hby at_67) (by decide) (by decide) ?_
          exact k)
        exact kj ⟨_, T26, N27, X26, e26, pre34⟩
    ·  -- from the meeting at pc 71
      rintro ⟨lcj29, Tj29, Nj29, Xj29, ej29, prej29⟩
      obtain ⟨T35, X35, e35, st35⟩ := getS2 Xj29 hx hZ hown (host := "") (Or.inl (hw _ (List.mem_of_getElem? (i := 33) rfl))) Via.refl ej29 (S_IMPLICIT_ALL.ext f11.2) (g := (mkF m 74 #[.val (.int p1), .val (.int (p1 &&& (31 : Int32))), .val (.ref b1), .val (.int (1 : Int32)), .val (.int (1 : Int32)), .unset, .unset, .unset] [(.ref b1)])) rfl (hb hby at_74)
      -- pc 77: WhitelistMode.has by rmha
      obtain ⟨cq36, kq36, q36a, q36b, q36c⟩ := isOf hZ e35 o9_0
      obtain ⟨_, _, ⟨T36, L36, k36, n36⟩, -, X36, ⟨Lc36, hQ36, l36, y36, z36⟩, st36⟩ := X35.virtualBack hx (y := (⟨"com/example/strict_allowlist/strictallowlist/WhitelistMode", "has", "(Lcom/example/strict_allowlist/strictallowlist/WhitelistMode$Flag;)Z"⟩ : MethodName)) (z := (⟨"com/example/strict_allowlist/strictallowlist/WhitelistMode", "has", "(Lcom/example/strict_allowlist/strictallowlist/WhitelistMode$Flag;)Z"⟩ : MethodName)) hown (mvT hZ (hw _ (List.mem_of_getElem? (i := 24) rfl))) (mvT hZ (hw _ (List.mem_of_getElem? (i := 25) rfl))) (notFace_of_selects (args := #[]) (mvT hZ (hw _ (List.mem_of_getElem? (i := 27) rfl)))) (mvT hZ (hw _ (List.mem_of_getElem? (i := 27) rfl))) (mvT hZ (hw _ (List.mem_of_getElem? (i := 26) rfl))) (by decide) (backOf (W := 0) (rmha l Z a0 hw [] b1 w_IMPLICIT_ALL (p1 &&& (31 : Int32)) (4 : Int32) T9.heap n0 zs14 o9_1 (F_bit_w_IMPLICIT_ALL.ext f11.2)) hZ (hw _ (List.mem_of_getElem? (i := 28) rfl)) (hw _ (List.mem_of_getElem? (i := 2) rfl)) (by decide) (by decide)) q36a q36c (g := (mkF m 77 #[.val (.int p1), .val (.int (p1 &&& (31 : Int32))), .val (.ref b1), .val (.int (1 : Int32)), .val (.int (1 : Int32)), .unset, .unset, .unset] [(.ref w_IMPLICIT_ALL), (.ref b1)])) rfl (by rw [hml]; rfl) (Steps.refl _) (argsL := [(.ref w_IMPLICIT_ALL)]) (rest := []) (lenOf pd_38 rfl) rfl (by show 2 * 0 + _ ≤ _; exact Nat.le_of_eq rfl) (hb hby at_77) (fun _ _ => ⟨rfl, e35, (by decide : 1 + 0 ≤ _), (by decide : 1 + 0 ≤ _)⟩)
      dsimp only [Pt.U, Pt.locs, Pt.cells, Pt.slots] at X36 l36 y36 z36 st36 hQ36
      subst l36 y36 z36
      obtain ⟨rfl, N36q, e36⟩ := hQ36
      have N37 := Fr.app Nj29 N36q
      have pre38 : ∀ t, Steps p.tables e below (T36.setTop (mkF m 86 #[.val (.int p1), .val (.int (p1 &&& (31 : Int32))), .val (.ref b1), .val (.int (1 : Int32)), .val (.int (1 : Int32)), .unset, .unset, .unset] [(.int (1 : Int32)), (.int (((p1 &&& (31 : Int32)) / (4 : Int32)) % (2 : Int32))), (.int (fha (p1 &&& (31 : Int32)) (4 : Int32)))])) t → Steps p.tables e below (s₁.setTop (entryFrame m #[(.int p1)] maxLocals)) t := fun t k => prej29 t (by
        show Steps p.tables e below (Tj29.setTop (mkF m 71 #[.val (.int p1), .val (.int (p1 &&& (31 : Int32))), .val (.ref b1), .val (.int (1 : Int32)), .unset, .unset, .unset, .unset] [(.int (1 : Int32))])) _
        refine XS.istore Xj29.here hx rfl (hb hby at_71) rfl (l' := #[.val (.int p1), .val (.int (p1 &&& (31 : Int32))), .val (.ref b1), .val (.int (1 : Int32)), .val (.int (1 : Int32)), .unset, .unset, .unset]) rfl ?_
        show Steps p.tables e below (Tj29.setTop (mkF m 73 #[.val (.int p1), .val (.int (p1 &&& (31 : Int32))), .val (.ref b1), .val (.int (1 : Int32)), .val (.int (1 : Int32)), .unset, .unset, .unset] [])) _
        refine XS.aloadN Xj29.here hx rfl (hb hby at_73) rfl rfl ?_
        show Steps p.tables e below (Tj29.setTop (mkF m 74 #[.val (.int p1), .val (.int (p1 &&& (31 : Int32))), .val (.ref b1), .val (.int (1 : Int32)), .val (.int (1 : Int32)), .unset, .unset, .unset] [(.ref b1)])) _
        refine st35 _ ?_
        show Steps p.tables e below (T35.setTop (mkF m 77 #[.val (.int p1), .val (.int (p1 &&& (31 : Int32))), .val (.ref b1), .val (.int (1 : Int32)), .val (.int (1 : Int32)), .unset, .unset, .unset] [(.ref w_IMPLICIT_ALL), (.ref b1)])) _
        refine st36.trans ?_
        show Steps p.tables e below (T36.setTop (mkF m 80 #[.val (.int p1), .val (.int (p1 &&& (31 : Int32))), .val (.ref b1), .val (.int (1 : Int32)), .val (.int (1 : Int32)), .unset, .unset, .unset] [(.int (fha (p1 &&& (31 : Int32)) (4 : Int32)))])) _
        refine XS.iloadN X36.here hx rfl (hb hby at_80) rfl ?_
        show Steps p.tables e below (T36.setTop (mkF m 81 #[.val (.int p1), .val (.int (p1 &&& (31 : Int32))), .val (.ref b1), .val (.int (1 : Int32)), .val (.int (1 : Int32)), .unset, .unset, .unset] [(.int (p1 &&& (31 : Int32))), (.int (fha (p1 &&& (31 : Int32)) (4 : Int32)))])) _
        refine XS.iconst X36.here hx rfl (hb hby at_81) ?_
        show Steps p.tables e below (T36.setTop (mkF m 82 #[.val (.int p1), .val (.int (p1 &&& (31 : Int32))), .val (.ref b1), .val (.int (1 : Int32)), .val (.int (1 : Int32)), .unset, .unset, .unset] [(.int (4 : Int32)), (.int (p1 &&& (31 : Int32))), (.int (fha (p1 &&& (31 : Int32)) (4 : Int32)))])) _
        refine XS.idiv X36.here hx rfl (hb hby at_82) rfl (by decide) ?_
        show Steps p.tables e below (T36.setTop (mkF m 83 #[.val (.int p1), .val (.int (p1 &&& (31 : Int32))), .val (.ref b1), .val (.int (1 : Int32)), .val (.int (1 : Int32)), .unset, .unset, .unset] [(.int ((p1 &&& (31 : Int32)) / (4 : Int32))), (.int (fha (p1 &&& (31 : Int32)) (4 : Int32)))])) _
        refine XS.iconst X36.here hx rfl (hb hby at_83) ?_
        show Steps p.tables e below (T36.setTop (mkF m 84 #[.val (.int p1), .val (.int (p1 &&& (31 : Int32))), .val (.ref b1), .val (.int (1 : Int32)), .val (.int (1 : Int32)), .unset, .unset, .unset] [(.int (2 : Int32)), (.int ((p1 &&& (31 : Int32)) / (4 : Int32))), (.int (fha (p1 &&& (31 : Int32)) (4 : Int32)))])) _
        refine iremM X36 hx rfl (hb hby at_84) rfl (by decide) ?_
        show Steps p.tables e below (T36.setTop (mkF m 85 #[.val (.int p1), .val (.int (p1 &&& (31 : Int32))), .val (.ref b1), .val (.int (1 : Int32)), .val (.int (1 : Int32)), .unset, .unset, .unset] [(.int (((p1 &&& (31 : Int32)) / (4 : Int32)) % (2 : Int32))), (.int (fha (p1 &&& (31 : Int32)) (4 : Int32)))])) _
        refine XS.iconst X36.here hx rfl (hb hby at_85) ?_
        exact k)
      refine cps (A := ∃ (lcj39 : List Loc) (Tj39 : State), Fr n0 lcj39 ∧ Stand p l e room_1 s m #[(.int p1)] below meth c Tj39 lcj39 1 1 ∧ Tj39.heap = T9.heap ∧ (∀ t, Steps p.tables e below (Tj39.setTop (mkF m 102 #[.val (.int p1), .val (.int (p1 &&& (31 : Int32))), .val (.ref b1), .val (.int (1 : Int32)), .val (.int (1 : Int32)), .unset, .unset, .unset] [(.int (1 : Int32))])) t → Steps p.tables e below (s₁.setTop (entryFrame m #[(.int p1)] maxLocals)) t)) (fun kj => ?_) ?_
      ·  -- to the meeting at pc 102
        by_cases hc40 : (((p1 &&& (31 : Int32)) / (4 : Int32)) % (2 : Int32)) = (1 : Int32)
        ·  -- pc 86: (((p1 &&& (31 : Int32)) / (4 : Int32)) % (2 : Int32)) = (1 : Int32)
          have hs41 : (fha (p1 &&& (31 : Int32)) (4 : Int32)) = (1 : Int32) := (own_b _).2.2.1.trans (if_pos hc40)
          have pre42 : ∀ t, Steps p.tables e below (T36.setTop (mkF m 102 #[.val (.int p1), .val (.int (p1 &&& (31 : Int32))), .val (.ref b1), .val (.int (1 : Int32)), .val (.int (1 : Int32)), .unset, .unset, .unset] [(.int (1 : Int32))])) t → Steps p.tables e below (s₁.setTop (entryFrame m #[(.int p1)] maxLocals)) t := fun t k => pre38 t (by
            show Steps p.tables e below (T36.setTop (mkF m 86 #[.val (.int p1), .val (.int (p1 &&& (31 : Int32))), .val (.ref b1), .val (.int (1 : Int32)), .val (.int (1 : Int32)), .unset, .unset, .unset] [(.int (1 : Int32)), (.int (((p1 &&& (31 : Int32)) / (4 : Int32)) % (2 : Int32))), (.int (fha (p1 &&& (31 : Int32)) (4 : Int32)))])) _
            refine XS.icmpNo X36.here hx rfl (hb hby at_86) rfl (teq hc40).2 ?_
            show Steps p.tables e below (T36.setTop (mkF m 89 #[.val (.int p1), .val (.int (p1 &&& (31 : Int32))), .val (.ref b1), .val (.int (1 : Int32)), .val (.int (1 : Int32)), .unset, .unset, .unset] [(.int (fha (p1 &&& (31 : Int32)) (4 : Int32)))])) _
            refine XS.iconst X36.here hx rfl (hb hby at_89) ?_
            show Steps p.tables e below (T36.setTop (mkF m 90 #[.val (.int p1), .val (.int (p1 &&& (31 : Int32))), .val (.ref b1), .val (.int (1 : Int32)), .val (.int (1 : Int32)), .unset, .unset, .unset] [(.int (1 : Int32)), (.int (fha (p1 &&& (31 : Int32)) (4 : Int32)))])) _
            refine XS.goto X36.here hx rfl (pc0 := 90) (pc' := 94) rfl (hb hby at_90) (by decide) (by decide) ?_
            show Steps p.tables e below (T36.setTop (mkF m 94 #[.val (.int p1), .val (.int (p1 &&& (31 : Int32))), .val (.ref b1), .val (.int (1 : Int32)), .val (.int (1 : Int32)), .unset, .unset, .unset] [(.int (1 : Int32)), (.int (fha (p1 &&& (31 : Int32)) (4 : Int32)))])) _
            refine XS.icmpNo X36.here hx rfl (hb hby at_94) rfl (teq hs41).2 ?_
            show Steps p.tables e below (T36.setTop (mkF m 97 #[.val (.int p1), .val (.int (p1 &&& (31 : Int32))), .val (.ref b1), .val (.int (1 : Int32)), .val (.int (1 : Int32)), .unset, .unset, .unset] [])) _
            refine XS.iconst X36.here hx rfl (hb hby at_97) ?_
            show Steps p.tables e below (T36.setTop (mkF m 98 #[.val (.int p1), .val (.int (p1 &&& (31 : Int32))), .val (.ref b1), .val (.int (1 : Int32)), .val (.int (1 : Int32)), .unset, .unset, .unset] [(.int (1 : Int32))])) _
            refine XS.goto X36.here hx rfl (pc0 := 98) (pc' := 102) rfl (hb hby at_98) (by decide) (by decide) ?_
            exact k)
          exact kj ⟨_, T36, N37, X36, e36, pre42⟩
        ·  -- pc 86: not (((p1 &&& (31 : Int32)) / (4 : Int32)) % (2 : Int32)) = (1 : Int32)
          have hs43 : (fha (p1 &&& (31 : Int32)) (4 : Int32)) = (0 : Int32) := (own_b _).2.2.1.trans (if_neg hc40)
          have pre44 : ∀ t, Steps p.tables e below (T36.setTop (mkF m 102 #[.val (.int p1), .val (.int (p1 &&& (31 : Int32))), .val (.ref b1), .val (.int (1 : Int32)), .val (.int (1 : Int32)), .unset, .unset, .unset] [(.int (1 : Int32))])) t → Steps p.tables e below (s₁.setTop (entryFrame m #[(.int p1)] maxLocals)) t := fun t k => pre38 t (by
            show Steps p.tables e below (T36.setTop (mkF m 86 #[.val (.int p1), .val (.int (p1 &&& (31 : Int32))), .val (.ref b1), .val (.int (1 : Int32)), .val (.int (1 : Int32)), .unset, .unset, .unset] [(.int (1 : Int32)), (.int (((p1 &&& (31 : Int32)) / (4 : Int32)) % (2 : Int32))), (.int (fha (p1 &&& (31 : Int32)) (4 : Int32)))])) _
            refine XS.icmpYes X36.here hx rfl (pc0 := 86) (pc' := 93) rfl (hb hby at_86) rfl (feq hc40).2 (by decide) (by decide) ?_
            show Steps p.tables e below (T36.setTop (mkF m 93 #[.val (.int p1), .val (.int (p1 &&& (31 : Int32))), .val (.ref b1), .val (.int (1 : Int32)), .val (.int (1 : Int32)), .unset, .unset, .unset] [(.int (fha (p1 &&& (31 : Int32)) (4 : Int32)))])) _
            refine XS.iconst X36.here hx rfl (hb hby at_93) ?_
            show Steps p.tables e below (T36.setTop (mkF m 94 #[.val (.int p1), .val (.int (p1 &&& (31 : Int32))), .val (.ref b1), .val (.int (1 : Int32)), .val (.int (1 : Int32)), .unset, .unset, .unset] [(.int (0 : Int32)), (.int (fha (p1 &&& (31 : Int32)) (4 : Int32)))])) _
            refine XS.icmpNo X36.here hx rfl (hb hby at_94) rfl (teq hs43).2 ?_
            show Steps p.tables e below (T36.setTop (mkF m 97 #[.val (.int p1), .val (.int (p1 &&& (31 : Int32))), .val (.ref b1), .val (.int (1 : Int32)), .val (.int (1 : Int32)), .unset, .unset, .unset] [])) _
            refine XS.iconst X36.here hx rfl (hb hby at_97) ?_
            show Steps p.tables e below (T36.setTop (mkF m 98 #[.val (.int p1), .val (.int (p1 &&& (31 : Int32))), .val (.ref b1), .val (.int (1 : Int32)), .val (.int (1 : Int32)), .unset, .unset, .unset] [(.int (1 : Int32))])) _
            refine XS.goto X36.here hx rfl (pc0 := 98) (pc' := 102) rfl (hb hby at_98) (by decide) (by decide) ?_
            exact k)
          exact kj ⟨_, T36, N37, X36, e36, pre44⟩
      ·  -- from the meeting at pc 102
        rintro ⟨lcj39, Tj39, Nj39, Xj39, ej39, prej39⟩
        obtain ⟨T45, X45, e45, st45⟩ := getS2 Xj39 hx hZ hown (host := "") (Or.inl (hw _ (List.mem_of_getElem? (i := 35) rfl))) Via.refl ej39 (S_IMPLICIT_SYSTEM.ext f11.2) (g := (mkF m 105 #[.val (.int p1), .val (.int (p1 &&& (31 : Int32))), .val (.ref b1), .val (.int (1 : Int32)), .val (.int (1 : Int32)), .val (.int (1 : Int32)), .unset, .unset] [(.ref b1)])) rfl (hb hby at_105)
        -- pc 108: WhitelistMode.has by rmha
        obtain ⟨cq46, kq46, q46a, q46b, q46c⟩ := isOf hZ e45 o9_0
        obtain ⟨_, _, ⟨T46, L46, k46, n46⟩, -, X46, ⟨Lc46, hQ46, l46, y46, z46⟩, st46⟩ := X45.virtualBack hx (y := (⟨"com/example/strict_allowlist/strictallowlist/WhitelistMode", "has", "(Lcom/example/strict_allowlist/strictallowlist/WhitelistMode$Flag;)Z"⟩ : MethodName)) (z := (⟨"com/example/strict_allowlist/strictallowlist/WhitelistMode", "has", "(Lcom/example/strict_allowlist/strictallowlist/WhitelistMode$Flag;)Z"⟩ : MethodName)) hown (mvT hZ (hw _ (List.mem_of_getElem? (i := 24) rfl))) (mvT hZ (hw _ (List.mem_of_getElem? (i := 25) rfl))) (notFace_of_selects (args := #[]) (mvT hZ (hw _ (List.mem_of_getElem? (i := 27) rfl)))) (mvT hZ (hw _ (List.mem_of_getElem? (i := 27) rfl))) (mvT hZ (hw _ (List.mem_of_getElem? (i := 26) rfl))) (by decide) (backOf (W := 0) (rmha l Z a0 hw [] b1 w_IMPLICIT_SYSTEM (p1 &&& (31 : Int32)) (8 : Int32) T9.heap n0 zs14 o9_1 (F_bit_w_IMPLICIT_SYSTEM.ext f11.2)) hZ (hw _ (List.mem_of_getElem? (i := 28) rfl)) (hw _ (List.mem_of_getElem? (i := 2) rfl)) (by decide) (by decide)) q46a q46c (g := (mkF m 108 #[.val (.int p1), .val (.int (p1 &&& (31 : Int32))), .val (.ref b1), .val (.int (1 : Int32)), .val (.int (1 : Int32)), .val (.int (1 : Int32)), .unset, .unset] [(.ref w_IMPLICIT_SYSTEM), (.ref b1)])) rfl (by rw [hml]; rfl) (Steps.refl _) (argsL := [(.ref w_IMPLICIT_SYSTEM)]) (rest := []) (lenOf pd_38 rfl) rfl (by show 2 * 0 + _ ≤ _; exact Nat.le_of_eq rfl) (hb hby at_108) (fun _ _ => ⟨rfl, e45, (by decide : 1 + 0 ≤ _), (by decide : 1 + 0 ≤ _)⟩)
        dsimp only [Pt.U, Pt.locs, Pt.cells, Pt.slots] at X46 l46 y46 z46 st46 hQ46
        subst l46 y46 z46
        obtain ⟨rfl, N46q, e46⟩ := hQ46
        have N47 := Fr.app Nj39 N46q
        have pre48 : ∀ t, Steps p.tables e below (T46.setTop (mkF m 118 #[.val (.int p1), .val (.int (p1 &&& (31 : Int32))), .val (.ref b1), .val (.int (1 : Int32)), .val (.int (1 : Int32)), .val (.int (1 : Int32)), .unset, .unset] [(.int (1 : Int32)), (.int (((p1 &&& (31 : Int32)) / (8 : Int32)) % (2 : Int32))), (.int (fha (p1 &&& (31 : Int32)) (8 : Int32)))])) t → Steps p.tables e below (s₁.setTop (entryFrame m #[(.int p1)] maxLocals)) t := fun t k => prej39 t (by
          show Steps p.tables e below (Tj39.setTop (mkF m 102 #[.val (.int p1), .val (.int (p1 &&& (31 : Int32))), .val (.ref b1), .val (.int (1 : Int32)), .val (.int (1 : Int32)), .unset, .unset, .unset] [(.int (1 : Int32))])) _
          refine XS.istore Xj39.here hx rfl (hb hby at_102) rfl (l' := #[.val (.int p1), .val (.int (p1 &&& (31 : Int32))), .val (.ref b1), .val (.int (1 : Int32)), .val (.int (1 : Int32)), .val (.int (1 : Int32)), .unset, .unset]) rfl ?_
          show Steps p.tables e below (Tj39.setTop (mkF m 104 #[.val (.int p1), .val (.int (p1 &&& (31 : Int32))), .val (.ref b1), .val (.int (1 : Int32)), .val (.int (1 : Int32)), .val (.int (1 : Int32)), .unset, .unset] [])) _
          refine XS.aloadN Xj39.here hx rfl (hb hby at_104) rfl rfl ?_
          show Steps p.tables e below (Tj39.setTop (mkF m 105 #[.val (.int p1), .val (.int (p1 &&& (31 : Int32))), .val (.ref b1), .val (.int (1 : Int32)), .val (.int (1 : Int32)), .val (.int (1 : Int32)), .unset, .unset] [(.ref b1)])) _
          refine st45 _ ?_
          show Steps p.tables e below (T45.setTop (mkF m 108 #[.val (.int p1), .val (.int (p1 &&& (31 : Int32))), .val (.ref b1), .val (.int (1 : Int32)), .val (.int (1 : Int32)), .val (.int (1 : Int32)), .unset, .unset] [(.ref w_IMPLICIT_SYSTEM), (.ref b1)])) _
          refine st46.trans ?_
          show Steps p.tables e below (T46.setTop (mkF m 111 #[.val (.int p1), .val (.int (p1 &&& (31 : Int32))), .val (.ref b1), .val (.int (1 : Int32)), .val (.int (1 : Int32)), .val (.int (1 : Int32)), .unset, .unset] [(.int (fha (p1 &&& (31 : Int32)) (8 : Int32)))])) _
          refine XS.iloadN X46.here hx rfl (hb hby at_111) rfl ?_
          show Steps p.tables e below (T46.setTop (mkF m 112 #[.val (.int p1), .val (.int (p1 &&& (31 : Int32))), .val (.ref b1), .val (.int (1 : Int32)), .val (.int (1 : Int32)), .val (.int (1 : Int32)), .unset, .unset] [(.int (p1 &&& (31 : Int32))), (.int (fha (p1 &&& (31 : Int32)) (8 : Int32)))])) _
          refine XS.bipush X46.here hx rfl (hb hby at_112) ?_
          show Steps p.tables e below (T46.setTop (mkF m 114 #[.val (.int p1), .val (.int (p1 &&& (31 : Int32))), .val (.ref b1), .val (.int (1 : Int32)), .val (.int (1 : Int32)), .val (.int (1 : Int32)), .unset, .unset] [(.int (8 : Int32)), (.int (p1 &&& (31 : Int32))), (.int (fha (p1 &&& (31 : Int32)) (8 : Int32)))])) _
          refine XS.idiv X46.here hx rfl (hb hby at_114) rfl (by decide) ?_
          show Steps p.tables e below (T46.setTop (mkF m 115 #[.val (.int p1), .val (.int (p1 &&& (31 : Int32))), .val (.ref b1), .val (.int (1 : Int32)), .val (.int (1 : Int32)), .val (.int (1 : Int32)), .unset, .unset] [(.int ((p1 &&& (31 : Int32)) / (8 : Int32))), (.int (fha (p1 &&& (31 : Int32)) (8 : Int32)))])) _
          refine XS.iconst X46.here hx rfl (hb hby at_115) ?_
          show Steps p.tables e below (T46.setTop (mkF m 116 #[.val (.int p1), .val (.int (p1 &&& (31 : Int32))), .val (.ref b1), .val (.int (1 : Int32)), .val (.int (1 : Int32)), .val (.int (1 : Int32)), .unset, .unset] [(.int (2 : Int32)), (.int ((p1 &&& (31 : Int32)) / (8 : Int32))), (.int (fha (p1 &&& (31 : Int32)) (8 : Int32)))])) _
          refine iremM X46 hx rfl (hb hby at_116) rfl (by decide) ?_
          show Steps p.tables e below (T46.setTop (mkF m 117 #[.val (.int p1), .val (.int (p1 &&& (31 : Int32))), .val (.ref b1), .val (.int (1 : Int32)), .val (.int (1 : Int32)), .val (.int (1 : Int32)), .unset, .unset] [(.int (((p1 &&& (31 : Int32)) / (8 : Int32)) % (2 : Int32))), (.int (fha (p1 &&& (31 : Int32)) (8 : Int32)))])) _
          refine XS.iconst X46.here hx rfl (hb hby at_117) ?_
          exact k)
        refine cps (A := ∃ (lcj49 : List Loc) (Tj49 : State), Fr n0 lcj49 ∧ Stand p l e room_1 s m #[(.int p1)] below meth c Tj49 lcj49 1 1 ∧ Tj49.heap = T9.heap ∧ (∀ t, Steps p.tables e below (Tj49.setTop (mkF m 134 #[.val (.int p1), .val (.int (p1 &&& (31 : Int32))), .val (.ref b1), .val (.int (1 : Int32)), .val (.int (1 : Int32)), .val (.int (1 : Int32)), .unset, .unset] [(.int (1 : Int32))])) t → Steps p.tables e below (s₁.setTop (entryFrame m #[(.int p1)] maxLocals)) t)) (fun kj => ?_) ?_
        ·  -- to the meeting at pc 134
          by_cases hc50 : (((p1 &&& (31 : Int32)) / (8 : Int32)) % (2 : Int32)) = (1 : Int32)
          ·  -- pc 118: (((p1 &&& (31 : Int32)) / (8 : Int32)) % (2 : Int32)) = (1 : Int32)
            have hs51 : (fha (p1 &&& (31 : Int32)) (8 : Int32)) = (1 : Int32) := (own_b _).2.2.2.1.trans (if_pos hc50)
            have pre52 : ∀ t, Steps p.tables e below (T46.setTop (mkF m 134 #[.val (.int p1), .val (.int (p1 &&& (31 : Int32))), .val (.ref b1), .val (.int (1 : Int32)), .val (.int (1 : Int32)), .val (.int (1 : Int32)), .unset, .unset] [(.int (1 : Int32))])) t → Steps p.tables e below (s₁.setTop (entryFrame m #[(.int p1)] maxLocals)) t := fun t k => pre48 t (by
              show Steps p.tables e below (T46.setTop (mkF m 118 #[.val (.int p1), .val (.int (p1 &&& (31 : Int32))), .val (.ref b1), .val (.int (1 : Int32)), .val (.int (1 : Int32)), .val (.int (1 : Int32)), .unset, .unset] [(.int (1 : Int32)), (.int (((p1 &&& (31 : Int32)) / (8 : Int32)) % (2 : Int32))), (.int (fha (p1 &&& (31 : Int32)) (8 : Int32)))])) _
              refine XS.icmpNo X46.here hx rfl (hb hby at_118) rfl (teq hc50).2 ?_
              show Steps p.tables e below (T46.setTop (mkF m 121 #[.val (.int p1), .val (.int (p1 &&& (31 : Int32))), .val (.ref b1), .val (.int (1 : Int32)), .val (.int (1 : Int32)), .val (.int (1 : Int32)), .unset, .unset] [(.int (fha (p1 &&& (31 : Int32)) (8 : Int32)))])) _
              refine XS.iconst X46.here hx rfl (hb hby at_121) ?_
              show Steps p.tables e below (T46.setTop (mkF m 122 #[.val (.int p1), .val (.int (p1 &&& (31 : Int32))), .val (.ref b1), .val (.int (1 : Int32)), .val (.int (1 : Int32)), .val (.int (1 : Int32)), .unset, .unset] [(.int (1 : Int32)), (.int (fha (p1 &&& (31 : Int32)) (8 : Int32)))])) _
              refine XS.goto X46.here hx rfl (pc0 := 122) (pc' := 126) rfl (hb hby at_122) (by decide) (by decide) ?_
              show Steps p.tables e below (T46.setTop (mkF m 126 #[.val (.int p1), .val (.int (p1 &&& (31 : Int32))), .val (.ref b1), .val (.int (1 : Int32)), .val (.int (1 : Int32)), .val (.int (1 : Int32)), .unset, .unset] [(.int (1 : Int32)), (.int (fha (p1 &&& (31 : Int32)) (8 : Int32)))])) _
              refine XS.icmpNo X46.here hx rfl (hb hby at_126) rfl (teq hs51).2 ?_
              show Steps p.tables e below (T46.setTop (mkF m 129 #[.val (.int p1), .val (.int (p1 &&& (31 : Int32))), .val (.ref b1), .val (.int (1 : Int32)), .val (.int (1 : Int32)), .val (.int (1 : Int32)), .unset, .unset] [])) _
              refine XS.iconst X46.here hx rfl (hb hby at_129) ?_
              show Steps p.tables e below (T46.setTop (mkF m 130 #[.val (.int p1), .val (.int (p1 &&& (31 : Int32))), .val (.ref b1), .val (.int (1 : Int32)), .val (.int (1 : Int32)), .val (.int (1 : Int32)), .unset, .unset] [(.int (1 : Int32))])) _
              refine XS.goto X46.here hx rfl (pc0 := 130) (pc' := 134) rfl (hb hby at_130) (by decide) (by decide) ?_
              exact k)
            exact kj ⟨_, T46, N47, X46, e46, pre52⟩
          ·  -- pc 118: not (((p1 &&& (31 : Int32)) / (8 : Int32)) % (2 : Int32)) = (1 : Int32)
            have hs53 : (fha (p1 &&& (31 : Int32)) (8 : Int32)) = (0 : Int32) := (own_b _).2.2.2.1.trans (if_neg hc50)
            have pre54 : ∀ t, Steps p.tables e below (T46.setTop (mkF m 134 #[.val (.int p1), .val (.int (p1 &&& (31 : Int32))), .val (.ref b1), .val (.int (1 : Int32)), .val (.int (1 : Int32)), .val (.int (1 : Int32)), .unset, .unset] [(.int (1 : Int32))])) t → Steps p.tables e below (s₁.setTop (entryFrame m #[(.int p1)] maxLocals)) t := fun t k => pre48 t (by
              show Steps p.tables e below (T46.setTop (mkF m 118 #[.val (.int p1), .val (.int (p1 &&& (31 : Int32))), .val (.ref b1), .val (.int (1 : Int32)), .val (.int (1 : Int32)), .val (.int (1 : Int32)), .unset, .unset] [(.int (1 : Int32)), (.int (((p1 &&& (31 : Int32)) / (8 : Int32)) % (2 : Int32))), (.int (fha (p1 &&& (31 : Int32)) (8 : Int32)))])) _
              refine XS.icmpYes X46.here hx rfl (pc0 := 118) (pc' := 125) rfl (hb hby at_118) rfl (feq hc50).2 (by decide) (by decide) ?_
              show Steps p.tables e below (T46.setTop (mkF m 125 #[.val (.int p1), .val (.int (p1 &&& (31 : Int32))), .val (.ref b1), .val (.int (1 : Int32)), .val (.int (1 : Int32)), .val (.int (1 : Int32)), .unset, .unset] [(.int (fha (p1 &&& (31 : Int32)) (8 : Int32)))])) _
              refine XS.iconst X46.here hx rfl (hb hby at_125) ?_
              show Steps p.tables e below (T46.setTop (mkF m 126 #[.val (.int p1), .val (.int (p1 &&& (31 : Int32))), .val (.ref b1), .val (.int (1 : Int32)), .val (.int (1 : Int32)), .val (.int (1 : Int32)), .unset, .unset] [(.int (0 : Int32)), (.int (fha (p1 &&& (31 : Int32)) (8 : Int32)))])) _
              refine XS.icmpNo X46.here hx rfl (hb hby at_126) rfl (teq hs53).2 ?_
              show Steps p.tables e below (T46.setTop (mkF m 129 #[.val (.int p1), .val (.int (p1 &&& (31 : Int32))), .val (.ref b1), .val (.int (1 : Int32)), .val (.int (1 : Int32)), .val (.int (1 : Int32)), .unset, .unset] [])) _
              refine XS.iconst X46.here hx rfl (hb hby at_129) ?_
              show Steps p.tables e below (T46.setTop (mkF m 130 #[.val (.int p1), .val (.int (p1 &&& (31 : Int32))), .val (.ref b1), .val (.int (1 : Int32)), .val (.int (1 : Int32)), .val (.int (1 : Int32)), .unset, .unset] [(.int (1 : Int32))])) _
              refine XS.goto X46.here hx rfl (pc0 := 130) (pc' := 134) rfl (hb hby at_130) (by decide) (by decide) ?_
              exact k)
            exact kj ⟨_, T46, N47, X46, e46, pre54⟩
        ·  -- from the meeting at pc 134
          rintro ⟨lcj49, Tj49, Nj49, Xj49, ej49, prej49⟩
          obtain ⟨T55, X55, e55, st55⟩ := getS2 Xj49 hx hZ hown (host := "") (Or.inl (hw _ (List.mem_of_getElem? (i := 37) rfl))) Via.refl ej49 (S_IGNORE_OTA.ext f11.2) (g := (mkF m 137 #[.val (.int p1), .val (.int (p1 &&& (31 : Int32))), .val (.ref b1), .val (.int (1 : Int32)), .val (.int (1 : Int32)), .val (.int (1 : Int32)), .val (.int (1 : Int32)), .unset] [(.ref b1)])) rfl (hb hby at_137)
          -- pc 140: WhitelistMode.has by rmha
          obtain ⟨cq56, kq56, q56a, q56b, q56c⟩ := isOf hZ e55 o9_0
          obtain ⟨_, _, ⟨T56, L56, k56, n56⟩, -, X56, ⟨Lc56, hQ56, l56, y56, z56⟩, st56⟩ := X55.virtualBack hx (y := (⟨"com/example/strict_allowlist/strictallowlist/WhitelistMode", "has", "(Lcom/example/strict_allowlist/strictallowlist/WhitelistMode$Flag;)Z"⟩ : MethodName)) (z := (⟨"com/example/strict_allowlist/strictallowlist/WhitelistMode", "has", "(Lcom/example/strict_allowlist/strictallowlist/WhitelistMode$Flag;)Z"⟩ : MethodName)) hown (mvT hZ (hw _ (List.mem_of_getElem? (i := 24) rfl))) (mvT hZ (hw _ (List.mem_of_getElem? (i := 25) rfl))) (notFace_of_selects (args := #[]) (mvT hZ (hw _ (List.mem_of_getElem? (i := 27) rfl)))) (mvT hZ (hw _ (List.mem_of_getElem? (i := 27) rfl))) (mvT hZ (hw _ (List.mem_of_getElem? (i := 26) rfl))) (by decide) (backOf (W := 0) (rmha l Z a0 hw [] b1 w_IGNORE_OTA (p1 &&& (31 : Int32)) (16 : Int32) T9.heap n0 zs14 o9_1 (F_bit_w_IGNORE_OTA.ext f11.2)) hZ (hw _ (List.mem_of_getElem? (i := 28) rfl)) (hw _ (List.mem_of_getElem? (i := 2) rfl)) (by decide) (by decide)) q56a q56c (g := (mkF m 140 #[.val (.int p1), .val (.int (p1 &&& (31 : Int32))), .val (.ref b1), .val (.int (1 : Int32)), .val (.int (1 : Int32)), .val (.int (1 : Int32)), .val (.int (1 : Int32)), .unset] [(.ref w_IGNORE_OTA), (.ref b1)])) rfl (by rw [hml]; rfl) (Steps.refl _) (argsL := [(.ref w_IGNORE_OTA)]) (rest := []) (lenOf pd_38 rfl) rfl (by show 2 * 0 + _ ≤ _; exact Nat.le_of_eq rfl) (hb hby at_140) (fun _ _ => ⟨rfl, e55, (by decide : 1 + 0 ≤ _), (by decide : 1 + 0 ≤ _)⟩)
          dsimp only [Pt.U, Pt.locs, Pt.cells, Pt.slots] at X56 l56 y56 z56 st56 hQ56
          subst l56 y56 z56
          obtain ⟨rfl, N56q, e56⟩ := hQ56
          have N57 := Fr.app Nj49 N56q
          have pre58 : ∀ t, Steps p.tables e below (T56.setTop (mkF m 148 #[.val (.int p1), .val (.int (p1 &&& (31 : Int32))), .val (.ref b1), .val (.int (1 : Int32)), .val (.int (1 : Int32)), .val (.int (1 : Int32)), .val (.int (1 : Int32)), .unset] [(.int (1 : Int32)), (.int ((p1 &&& (31 : Int32)) / (16 : Int32))), (.int (fha (p1 &&& (31 : Int32)) (16 : Int32)))])) t → Steps p.tables e below (s₁.setTop (entryFrame m #[(.int p1)] maxLocals)) t := fun t k => prej49 t (by
            show Steps p.tables e below (Tj49.setTop (mkF m 134 #[.val (.int p1), .val (.int (p1 &&& (31 : Int32))), .val (.ref b1), .val (.int (1 : Int32)), .val (.int (1 : Int32)), .val (.int (1 : Int32)), .unset, .unset] [(.int (1 : Int32))])) _
            refine XS.istore Xj49.here hx rfl (hb hby at_134) rfl (l' := #[.val (.int p1), .val (.int (p1 &&& (31 : Int32))), .val (.ref b1), .val (.int (1 : Int32)), .val (.int (1 : Int32)), .val (.int (1 : Int32)), .val (.int (1 : Int32)), .unset]) rfl ?_
            show Steps p.tables e below (Tj49.setTop (mkF m 136 #[.val (.int p1), .val (.int (p1 &&& (31 : Int32))), .val (.ref b1), .val (.int (1 : Int32)), .val (.int (1 : Int32)), .val (.int (1 : Int32)), .val (.int (1 : Int32)), .unset] [])) _
            refine XS.aloadN Xj49.here hx rfl (hb hby at_136) rfl rfl ?_
            show Steps p.tables e below (Tj49.setTop (mkF m 137 #[.val (.int p1), .val (.int (p1 &&& (31 : Int32))), .val (.ref b1), .val (.int (1 : Int32)), .val (.int (1 : Int32)), .val (.int (1 : Int32)), .val (.int (1 : Int32)), .unset] [(.ref b1)])) _
            refine st55 _ ?_
            show Steps p.tables e below (T55.setTop (mkF m 140 #[.val (.int p1), .val (.int (p1 &&& (31 : Int32))), .val (.ref b1), .val (.int (1 : Int32)), .val (.int (1 : Int32)), .val (.int (1 : Int32)), .val (.int (1 : Int32)), .unset] [(.ref w_IGNORE_OTA), (.ref b1)])) _
            refine st56.trans ?_
            show Steps p.tables e below (T56.setTop (mkF m 143 #[.val (.int p1), .val (.int (p1 &&& (31 : Int32))), .val (.ref b1), .val (.int (1 : Int32)), .val (.int (1 : Int32)), .val (.int (1 : Int32)), .val (.int (1 : Int32)), .unset] [(.int (fha (p1 &&& (31 : Int32)) (16 : Int32)))])) _
            refine XS.iloadN X56.here hx rfl (hb hby at_143) rfl ?_
            show Steps p.tables e below (T56.setTop (mkF m 144 #[.val (.int p1), .val (.int (p1 &&& (31 : Int32))), .val (.ref b1), .val (.int (1 : Int32)), .val (.int (1 : Int32)), .val (.int (1 : Int32)), .val (.int (1 : Int32)), .unset] [(.int (p1 &&& (31 : Int32))), (.int (fha (p1 &&& (31 : Int32)) (16 : Int32)))])) _
            refine XS.bipush X56.here hx rfl (hb hby at_144) ?_
            show Steps p.tables e below (T56.setTop (mkF m 146 #[.val (.int p1), .val (.int (p1 &&& (31 : Int32))), .val (.ref b1), .val (.int (1 : Int32)), .val (.int (1 : Int32)), .val (.int (1 : Int32)), .val (.int (1 : Int32)), .unset] [(.int (16 : Int32)), (.int (p1 &&& (31 : Int32))), (.int (fha (p1 &&& (31 : Int32)) (16 : Int32)))])) _
            refine XS.idiv X56.here hx rfl (hb hby at_146) rfl (by decide) ?_
            show Steps p.tables e below (T56.setTop (mkF m 147 #[.val (.int p1), .val (.int (p1 &&& (31 : Int32))), .val (.ref b1), .val (.int (1 : Int32)), .val (.int (1 : Int32)), .val (.int (1 : Int32)), .val (.int (1 : Int32)), .unset] [(.int ((p1 &&& (31 : Int32)) / (16 : Int32))), (.int (fha (p1 &&& (31 : Int32)) (16 : Int32)))])) _
            refine XS.iconst X56.here hx rfl (hb hby at_147) ?_
            exact k)
          refine cps (A := ∃ (lcj59 : List Loc) (Tj59 : State), Fr n0 lcj59 ∧ Stand p l e room_1 s m #[(.int p1)] below meth c Tj59 lcj59 1 1 ∧ Tj59.heap = T9.heap ∧ (∀ t, Steps p.tables e below (Tj59.setTop (mkF m 164 #[.val (.int p1), .val (.int (p1 &&& (31 : Int32))), .val (.ref b1), .val (.int (1 : Int32)), .val (.int (1 : Int32)), .val (.int (1 : Int32)), .val (.int (1 : Int32)), .unset] [(.int (1 : Int32))])) t → Steps p.tables e below (s₁.setTop (entryFrame m #[(.int p1)] maxLocals)) t)) (fun kj => ?_) ?_
          ·  -- to the meeting at pc 164
            by_cases hc60 : ((p1 &&& (31 : Int32)) / (16 : Int32)) = (1 : Int32)
            ·  -- pc 148: ((p1 &&& (31 : Int32)) / (16 : Int32)) = (1 : Int32)
              have hs61 : (fha (p1 &&& (31 : Int32)) (16 : Int32)) = (1 : Int32) := (own_b _).2.2.2.2.trans (if_pos hc60)
              have pre62 : ∀ t, Steps p.tables e below (T56.setTop (mkF m 164 #[.val (.int p1), .val (.int (p1 &&& (31 : Int32))), .val (.ref b1), .val (.int (1 : Int32)), .val (.int (1 : Int32)), .val (.int (1 : Int32)), .val (.int (1 : Int32)), .unset] [(.int (1 : Int32))])) t → Steps p.tables e below (s₁.setTop (entryFrame m #[(.int p1)] maxLocals)) t := fun t k => pre58 t (by
                show Steps p.tables e below (T56.setTop (mkF m 148 #[.val (.int p1), .val (.int (p1 &&& (31 : Int32))), .val (.ref b1), .val (.int (1 : Int32)), .val (.int (1 : Int32)), .val (.int (1 : Int32)), .val (.int (1 : Int32)), .unset] [(.int (1 : Int32)), (.int ((p1 &&& (31 : Int32)) / (16 : Int32))), (.int (fha (p1 &&& (31 : Int32)) (16 : Int32)))])) _
                refine XS.icmpNo X56.here hx rfl (hb hby at_148) rfl (teq hc60).2 ?_
                show Steps p.tables e below (T56.setTop (mkF m 151 #[.val (.int p1), .val (.int (p1 &&& (31 : Int32))), .val (.ref b1), .val (.int (1 : Int32)), .val (.int (1 : Int32)), .val (.int (1 : Int32)), .val (.int (1 : Int32)), .unset] [(.int (fha (p1 &&& (31 : Int32)) (16 : Int32)))])) _
                refine XS.iconst X56.here hx rfl (hb hby at_151) ?_
                show Steps p.tables e below (T56.setTop (mkF m 152 #[.val (.int p1), .val (.int (p1 &&& (31 : Int32))), .val (.ref b1), .val (.int (1 : Int32)), .val (.int (1 : Int32)), .val (.int (1 : Int32)), .val (.int (1 : Int32)), .unset] [(.int (1 : Int32)), (.int (fha (p1 &&& (31 : Int32)) (16 : Int32)))])) _
                refine XS.goto X56.here hx rfl (pc0 := 152) (pc' := 156) rfl (hb hby at_152) (by decide) (by decide) ?_
                show Steps p.tables e below (T56.setTop (mkF m 156 #[.val (.int p1), .val (.int (p1 &&& (31 : Int32))), .val (.ref b1), .val (.int (1 : Int32)), .val (.int (1 : Int32)), .val (.int (1 : Int32)), .val (.int (1 : Int32)), .unset] [(.int (1 : Int32)), (.int (fha (p1 &&& (31 : Int32)) (16 : Int32)))])) _
                refine XS.icmpNo X56.here hx rfl (hb hby at_156) rfl (teq hs61).2 ?_
                show Steps p.tables e below (T56.setTop (mkF m 159 #[.val (.int p1), .val (.int (p1 &&& (31 : Int32))), .val (.ref b1), .val (.int (1 : Int32)), .val (.int (1 : Int32)), .val (.int (1 : Int32)), .val (.int (1 : Int32)), .unset] [])) _
                refine XS.iconst X56.here hx rfl (hb hby at_159) ?_
                show Steps p.tables e below (T56.setTop (mkF m 160 #[.val (.int p1), .val (.int (p1 &&& (31 : Int32))), .val (.ref b1), .val (.int (1 : Int32)), .val (.int (1 : Int32)), .val (.int (1 : Int32)), .val (.int (1 : Int32)), .unset] [(.int (1 : Int32))])) _
                refine XS.goto X56.here hx rfl (pc0 := 160) (pc' := 164) rfl (hb hby at_160) (by decide) (by decide) ?_
                exact k)
              exact kj ⟨_, T56, N57, X56, e56, pre62⟩
            ·  -- pc 148: not ((p1 &&& (31 : Int32)) / (16 : Int32)) = (1 : Int32)
              have hs63 : (fha (p1 &&& (31 : Int32)) (16 : Int32)) = (0 : Int32) := (own_b _).2.2.2.2.trans (if_neg hc60)
              have pre64 : ∀ t, Steps p.tables e below (T56.setTop (mkF m 164 #[.val (.int p1), .val (.int (p1 &&& (31 : Int32))), .val (.ref b1), .val (.int (1 : Int32)), .val (.int (1 : Int32)), .val (.int (1 : Int32)), .val (.int (1 : Int32)), .unset] [(.int (1 : Int32))])) t → Steps p.tables e below (s₁.setTop (entryFrame m #[(.int p1)] maxLocals)) t := fun t k => pre58 t (by
                show Steps p.tables e below (T56.setTop (mkF m 148 #[.val (.int p1), .val (.int (p1 &&& (31 : Int32))), .val (.ref b1), .val (.int (1 : Int32)), .val (.int (1 : Int32)), .val (.int (1 : Int32)), .val (.int (1 : Int32)), .unset] [(.int (1 : Int32)), (.int ((p1 &&& (31 : Int32)) / (16 : Int32))), (.int (fha (p1 &&& (31 : Int32)) (16 : Int32)))])) _
                refine XS.icmpYes X56.here hx rfl (pc0 := 148) (pc' := 155) rfl (hb hby at_148) rfl (feq hc60).2 (by decide) (by decide) ?_
                show Steps p.tables e below (T56.setTop (mkF m 155 #[.val (.int p1), .val (.int (p1 &&& (31 : Int32))), .val (.ref b1), .val (.int (1 : Int32)), .val (.int (1 : Int32)), .val (.int (1 : Int32)), .val (.int (1 : Int32)), .unset] [(.int (fha (p1 &&& (31 : Int32)) (16 : Int32)))])) _
                refine XS.iconst X56.here hx rfl (hb hby at_155) ?_
                show Steps p.tables e below (T56.setTop (mkF m 156 #[.val (.int p1), .val (.int (p1 &&& (31 : Int32))), .val (.ref b1), .val (.int (1 : Int32)), .val (.int (1 : Int32)), .val (.int (1 : Int32)), .val (.int (1 : Int32)), .unset] [(.int (0 : Int32)), (.int (fha (p1 &&& (31 : Int32)) (16 : Int32)))])) _
                refine XS.icmpNo X56.here hx rfl (hb hby at_156) rfl (teq hs63).2 ?_
                show Steps p.tables e below (T56.setTop (mkF m 159 #[.val (.int p1), .val (.int (p1 &&& (31 : Int32))), .val (.ref b1), .val (.int (1 : Int32)), .val (.int (1 : Int32)), .val (.int (1 : Int32)), .val (.int (1 : Int32)), .unset] [])) _
                refine XS.iconst X56.here hx rfl (hb hby at_159) ?_
                show Steps p.tables e below (T56.setTop (mkF m 160 #[.val (.int p1), .val (.int (p1 &&& (31 : Int32))), .val (.ref b1), .val (.int (1 : Int32)), .val (.int (1 : Int32)), .val (.int (1 : Int32)), .val (.int (1 : Int32)), .unset] [(.int (1 : Int32))])) _
                refine XS.goto X56.here hx rfl (pc0 := 160) (pc' := 164) rfl (hb hby at_160) (by decide) (by decide) ?_
                exact k)
              exact kj ⟨_, T56, N57, X56, e56, pre64⟩
          ·  -- from the meeting at pc 164
            rintro ⟨lcj59, Tj59, Nj59, Xj59, ej59, prej59⟩
            obtain ⟨fs, hr, hrun, hended, hW, hsame⟩ := Xj59.leave (v := some (.int (1 : Int32))) (fun h => by rw [Bd.returns] at h; cases h) Bd.notSynchronized
            refine ⟨_, _, prej59 _ ?_, hrun, hended, _, _, rfl, ?_, ⟨_, rfl⟩, hW, hsame.mono (by decide) (by decide)⟩
            · show Steps p.tables e below (Tj59.setTop (mkF m 164 #[.val (.int p1), .val (.int (p1 &&& (31 : Int32))), .val (.ref b1), .val (.int (1 : Int32)), .val (.int (1 : Int32)), .val (.int (1 : Int32)), .val (.int (1 : Int32)), .unset] [(.int (1 : Int32))])) _
              refine XS.istore Xj59.here hx rfl (hb hby at_164) rfl (l' := #[.val (.int p1), .val (.int (p1 &&& (31 : Int32))), .val (.ref b1), .val (.int (1 : Int32)), .val (.int (1 : Int32)), .val (.int (1 : Int32)), .val (.int (1 : Int32)), .val (.int (1 : Int32))]) rfl ?_
              show Steps p.tables e below (Tj59.setTop (mkF m 166 #[.val (.int p1), .val (.int (p1 &&& (31 : Int32))), .val (.ref b1), .val (.int (1 : Int32)), .val (.int (1 : Int32)), .val (.int (1 : Int32)), .val (.int (1 : Int32)), .val (.int (1 : Int32))] [])) _
              refine XS.iloadN Xj59.here hx rfl (hb hby at_166) rfl ?_
              show Steps p.tables e below (Tj59.setTop (mkF m 167 #[.val (.int p1), .val (.int (p1 &&& (31 : Int32))), .val (.ref b1), .val (.int (1 : Int32)), .val (.int (1 : Int32)), .val (.int (1 : Int32)), .val (.int (1 : Int32)), .val (.int (1 : Int32))] [(.int (1 : Int32))])) _
              refine XS.ifNo Xj59.here hx rfl (hb hby at_167) rfl ((if0 _ _).trans (feq (by decide : ¬ ((1 : Int32) = (0 : Int32)))).1) ?_
              show Steps p.tables e below (Tj59.setTop (mkF m 170 #[.val (.int p1), .val (.int (p1 &&& (31 : Int32))), .val (.ref b1), .val (.int (1 : Int32)), .val (.int (1 : Int32)), .val (.int (1 : Int32)), .val (.int (1 : Int32)), .val (.int (1 : Int32))] [])) _
              refine XS.iload Xj59.here hx rfl (hb hby at_170) rfl ?_
              show Steps p.tables e below (Tj59.setTop (mkF m 172 #[.val (.int p1), .val (.int (p1 &&& (31 : Int32))), .val (.ref b1), .val (.int (1 : Int32)), .val (.int (1 : Int32)), .val (.int (1 : Int32)), .val (.int (1 : Int32)), .val (.int (1 : Int32))] [(.int (1 : Int32))])) _
              refine XS.ifNo Xj59.here hx rfl (hb hby at_172) rfl ((if0 _ _).trans (feq (by decide : ¬ ((1 : Int32) = (0 : Int32)))).1) ?_
              show Steps p.tables e below (Tj59.setTop (mkF m 175 #[.val (.int p1), .val (.int (p1 &&& (31 : Int32))), .val (.ref b1), .val (.int (1 : Int32)), .val (.int (1 : Int32)), .val (.int (1 : Int32)), .val (.int (1 : Int32)), .val (.int (1 : Int32))] [])) _
              refine XS.iload Xj59.here hx rfl (hb hby at_175) rfl ?_
              show Steps p.tables e below (Tj59.setTop (mkF m 177 #[.val (.int p1), .val (.int (p1 &&& (31 : Int32))), .val (.ref b1), .val (.int (1 : Int32)), .val (.int (1 : Int32)), .val (.int (1 : Int32)), .val (.int (1 : Int32)), .val (.int (1 : Int32))] [(.int (1 : Int32))])) _
              refine XS.ifNo Xj59.here hx rfl (hb hby at_177) rfl ((if0 _ _).trans (feq (by decide : ¬ ((1 : Int32) = (0 : Int32)))).1) ?_
              show Steps p.tables e below (Tj59.setTop (mkF m 180 #[.val (.int p1), .val (.int (p1 &&& (31 : Int32))), .val (.ref b1), .val (.int (1 : Int32)), .val (.int (1 : Int32)), .val (.int (1 : Int32)), .val (.int (1 : Int32)), .val (.int (1 : Int32))] [])) _
              refine XS.iload Xj59.here hx rfl (hb hby at_180) rfl ?_
              show Steps p.tables e below (Tj59.setTop (mkF m 182 #[.val (.int p1), .val (.int (p1 &&& (31 : Int32))), .val (.ref b1), .val (.int (1 : Int32)), .val (.int (1 : Int32)), .val (.int (1 : Int32)), .val (.int (1 : Int32)), .val (.int (1 : Int32))] [(.int (1 : Int32))])) _
              refine XS.ifNo Xj59.here hx rfl (hb hby at_182) rfl ((if0 _ _).trans (feq (by decide : ¬ ((1 : Int32) = (0 : Int32)))).1) ?_
              show Steps p.tables e below (Tj59.setTop (mkF m 185 #[.val (.int p1), .val (.int (p1 &&& (31 : Int32))), .val (.ref b1), .val (.int (1 : Int32)), .val (.int (1 : Int32)), .val (.int (1 : Int32)), .val (.int (1 : Int32)), .val (.int (1 : Int32))] [])) _
              refine XS.iload Xj59.here hx rfl (hb hby at_185) rfl ?_
              show Steps p.tables e below (Tj59.setTop (mkF m 187 #[.val (.int p1), .val (.int (p1 &&& (31 : Int32))), .val (.ref b1), .val (.int (1 : Int32)), .val (.int (1 : Int32)), .val (.int (1 : Int32)), .val (.int (1 : Int32)), .val (.int (1 : Int32))] [(.int (1 : Int32))])) _
              refine XS.ifNo Xj59.here hx rfl (hb hby at_187) rfl ((if0 _ _).trans (feq (by decide : ¬ ((1 : Int32) = (0 : Int32)))).1) ?_
              show Steps p.tables e below (Tj59.setTop (mkF m 190 #[.val (.int p1), .val (.int (p1 &&& (31 : Int32))), .val (.ref b1), .val (.int (1 : Int32)), .val (.int (1 : Int32)), .val (.int (1 : Int32)), .val (.int (1 : Int32)), .val (.int (1 : Int32))] [])) _
              refine XS.iconst Xj59.here hx rfl (hb hby at_190) ?_
              show Steps p.tables e below (Tj59.setTop (mkF m 191 #[.val (.int p1), .val (.int (p1 &&& (31 : Int32))), .val (.ref b1), .val (.int (1 : Int32)), .val (.int (1 : Int32)), .val (.int (1 : Int32)), .val (.int (1 : Int32)), .val (.int (1 : Int32))] [(.int (1 : Int32))])) _
              refine XS.goto Xj59.here hx rfl (pc0 := 191) (pc' := 195) rfl (hb hby at_191) (by decide) (by decide) ?_
              show Steps p.tables e below (Tj59.setTop (mkF m 195 #[.val (.int p1), .val (.int (p1 &&& (31 : Int32))), .val (.ref b1), .val (.int (1 : Int32)), .val (.int (1 : Int32)), .val (.int (1 : Int32)), .val (.int (1 : Int32)), .val (.int (1 : Int32))] [(.int (1 : Int32))])) _
              exact retN Xj59 hx (t := .boolean) Bd.returns (by simp) (hb hby at_195) hr
            · show Q0 Z p1 w_ENFORCE w_LOG w_IMPLICIT_ALL w_IMPLICIT_SYSTEM w_IGNORE_OTA h0 n0 _ Tj59.heap _
              rw [ej59]
              exact ⟨rfl, Nj59⟩
set_option maxRecDepth 65536 in
set_option maxHeartbeats 40000000 in
theorem comes_1 {Post : Tables → Env → Array Value → State → Outcome → State → Prop} (hpost : ∀ tb e args s v u, (limb_1_1.after args s (.returned v) u = true ∧ limb_1_2.after args s (.returned v) u = true ∧ True) → FrameEnd s (.returned v) u (Jvm.fieldLocs frame_1_writes args s ++ Jvm.arrayLocs frame_1_arrays args s ++ Jvm.staticLocs frame_1_statics s) 16 128 → Post tb e args s (.returned v) u) :
    ArmFor flags0 classFile x code maxLocals ret World_1 tables_1 room_1 Calls_1 rest_1 Pre_1 Post := by
  intro l hfl _ _ p e ha hc hk s m args below hf hA hF happ hP
  obtain ⟨hcalls, hrest, hpre⟩ := hP
  obtain ⟨-, -, -, hnamed, -, -, -, hat⟩ := (Spec.applies_iff hf).mp happ
  obtain ⟨hg, hn⟩ := and_e (Cond.before_iff.mp (show (Jvm.Cond.and given_1 narrow_1).before args s = true from hpre))
  obtain ⟨gv1, gv2⟩ := and_e hg
  obtain ⟨gv3, gv4⟩ := and_e hn
  obtain ⟨gv5, gv6⟩ := and_e gv4
  obtain ⟨gv7, gv8⟩ := and_e gv6
  obtain ⟨gv9, gv10⟩ := and_e gv8
  obtain ⟨gv11, gv12⟩ := and_e gv10
  obtain ⟨gv13, gv14⟩ := and_e gv12
  obtain ⟨gv15, gv16⟩ := and_e gv14
  obtain ⟨gv17, gv18⟩ := and_e gv16
  obtain ⟨gv19, gv20⟩ := and_e gv18
  obtain ⟨gv21, gv22⟩ := and_e gv20
  obtain ⟨w0, rfl⟩ : ∃ w0 : Value, args = #[w0] := by
    have hs : args.size = 1 := by simpa [Cond.value, given_1] using gv1
    obtain ⟨L⟩ := args
    match L, hs with
    | [w0], _ => exact ⟨w0, rfl⟩
  have hw := fun d (hd : d ∈ tables_1) => atoms_spec (ws := Jvm.Cond.code x code maxLocals ret :: tables_1) hat d (List.mem_cons_of_mem _ hd)
  obtain ⟨i0, ei0⟩ := is_v gv2
  obtain rfl : w0 = (.int i0) := Option.some.inj ei0
  have O0 := Old.start s
  obtain ⟨w_ENFORCE, ev_ENFORCE⟩ := exa_v gv5
  have S_ENFORCE := Sta.start ev_ENFORCE (Or.inr ⟨(hw _ (List.mem_of_getElem? (i := 22) rfl)), (hw _ (List.mem_of_getElem? (i := 23) rfl))⟩)
  have E_w_ENFORCE := Exa.start ev_ENFORCE gv5
  obtain ⟨w_LOG, ev_LOG⟩ := exa_v gv9
  have S_LOG := Sta.start ev_LOG (Or.inr ⟨(hw _ (List.mem_of_getElem? (i := 22) rfl)), (hw _ (List.mem_of_getElem? (i := 32) rfl))⟩)
  have E_w_LOG := Exa.start ev_LOG gv9
  obtain ⟨w_IMPLICIT_ALL, ev_IMPLICIT_ALL⟩ := exa_v gv13
  have S_IMPLICIT_ALL := Sta.start ev_IMPLICIT_ALL (Or.inr ⟨(hw _ (List.mem_of_getElem? (i := 22) rfl)), (hw _ (List.mem_of_getElem? (i := 34) rfl))⟩)
  have E_w_IMPLICIT_ALL := Exa.start ev_IMPLICIT_ALL gv13
  obtain ⟨w_IMPLICIT_SYSTEM, ev_IMPLICIT_SYSTEM⟩ := exa_v gv17
  have S_IMPLICIT_SYSTEM := Sta.start ev_IMPLICIT_SYSTEM (Or.inr ⟨(hw _ (List.mem_of_getElem? (i := 22) rfl)), (hw _ (List.mem_of_getElem? (i := 36) rfl))⟩)
  have E_w_IMPLICIT_SYSTEM := Exa.start ev_IMPLICIT_SYSTEM gv17
  obtain ⟨w_IGNORE_OTA, ev_IGNORE_OTA⟩ := exa_v gv21
  have S_IGNORE_OTA := Sta.start ev_IGNORE_OTA (Or.inr ⟨(hw _ (List.mem_of_getElem? (i := 22) rfl)), (hw _ (List.mem_of_getElem? (i := 38) rfl))⟩)
  have E_w_IGNORE_OTA := Exa.start ev_IGNORE_OTA gv21
  have F_bit_w_ENFORCE := own_feq ev_ENFORCE gv7
  have F_bit_w_LOG := own_feq ev_LOG gv11
  have F_bit_w_IMPLICIT_ALL := own_feq ev_IMPLICIT_ALL gv15
  have F_bit_w_IMPLICIT_SYSTEM := own_feq ev_IMPLICIT_SYSTEM gv19
  have F_bit_w_IGNORE_OTA := own_feq ev_IGNORE_OTA gv22
  have S_ALL_FLAGS := Sta.start (own_seq gv3) (Or.inr ⟨(hw _ (List.mem_of_getElem? (i := 2) rfl)), (hw _ (List.mem_of_getElem? (i := 18) rfl))⟩)
  obtain ⟨n, o, h1, h2, h3, _, L, rfl, ⟨rfl, N⟩, hq⟩ := rm0 l s _ hw tables_1 i0 w_ENFORCE w_LOG w_IMPLICIT_ALL w_IMPLICIT_SYSTEM w_IGNORE_OTA s.heap s.heap.size (Nat.le_refl _) O0 S_ENFORCE S_LOG S_IMPLICIT_ALL S_IMPLICIT_SYSTEM S_IGNORE_OTA E_w_ENFORCE E_w_LOG E_w_IMPLICIT_ALL E_w_IMPLICIT_SYSTEM E_w_IGNORE_OTA F_bit_w_ENFORCE F_bit_w_LOG F_bit_w_IMPLICIT_ALL F_bit_w_IMPLICIT_SYSTEM F_bit_w_IGNORE_OTA S_ALL_FLAGS p e ha hc hk s m _ below hf ((Spec.applies_iff_loose hf).mp happ).1 ⟨rfl, State.Warmed39.refl s, rfl⟩ trivial
  refine ⟨n, _, h1, h2, h3, hpost _ _ _ _ _ _ ⟨Cond.after_iff.mpr rfl, Cond.after_iff.mpr (eq_i res_at (Term.int_eval (1)) rfl), trivial⟩ ⟨hq.1, hq.2.1, (hq.2.2.sift fun y hy => Or.inr (N y hy)).mono (by decide) (by decide)⟩⟩
theorem main_1_1 : Claimed_1_1 := comes_1 fun _ _ _ _ _ _ h hF => ⟨h.1, hF⟩
theorem main_1_2 : Claimed_1_2 := comes_1 fun _ _ _ _ _ _ h hF => ⟨h.2.1, hF⟩
end Jvm.Pilot.@@N@@
namespace Jvm.Pilot.@@N@@
open Jvm Jvm.ClassFile Sem Op Lib Jvm.Free Jvm.Stand Jvm.Pilot.@@N@@.Jvm.D
/-! MADE BY PROGRAM (witnessworld.py) out of the Statement's table words and the real class files: 14 classes; the members and pool entries that the words name. The judged class is class 1, her method 1. -/
namespace start1
open Jvm.ClassFile
def u (s : String) : CpInfo := .utf8 (stringToUtf16 s)
/-- a pool by its gaps: so many unusable entries, then the entry; so many at the end -/
def gap : Nat → List CpInfo → List CpInfo
  | 0, r => r
  | n + 1, r => .unusable :: gap n r
def poolList (es : List (Nat × CpInfo)) (last : Nat) : List CpInfo := es.foldr (fun e r => gap e.1 (e.2 :: r)) (gap last [])
def pool (es : List (Nat × CpInfo)) (last : Nat) : Array CpInfo := ⟨poolList es last⟩
def fileOf (pool : Array CpInfo) (this : Nat) (attrs : Array Attribute := #[]) (ms : Array MethodInfo := #[]) (fl : Nat := 33) (sup : Nat := 0) (ifs : Array Nat := #[]) (fds : Array FieldInfo := #[]) : ClassFile where
  minorVersion := 0
  majorVersion := 65
  constantPool := pool
  accessFlags := fl
  thisClass := this
  superClass := sup
  interfaces := ifs
  fields := fds
  methods := ms
  attributes := attrs
def plain (name : String) (sup : Option ClassId) : Class where
  name := name
  kind := .ordinary
  loader := none
  accessFlags := 33
  super := sup
  interfaces := #[]
  cf := none
  fields := #[]
  methods := #[]
  instanceTypes := #[]
  staticTypes := #[]
  resolved := #[]
  callSites := []
  init := .initialized
  statics := none
  mirror := none

def pool0 : Array CpInfo := pool [(5, u "<init>"), (0, u "()V"), (1, .class_ 10), (1, u "java/lang/Object")] 113

def k0c0 : Code := { maxStack := 0, maxLocals := 1, code := object_method_1_code, exceptionTable := #[], attributes := #[] }
def k0m0 : Method := { name := "<init>", desc := "()V", sig := { parameters := [], returnType := none }, accessFlags := 1, code := some k0c0 }
/-- java/lang/Object -/
def k0 : Class := { plain "java/lang/Object" none with
  accessFlags := 33
  interfaces := #[]
  cf := some (fileOf pool0 8 #[] #[{ accessFlags := 1, nameIndex := 5, descriptorIndex := 6, attributes := #[] }] 33 0 #[] #[])
  fields := #[]
  methods := #[k0m0]
  instanceTypes := #[]
  staticTypes := #[]
  resolved := Array.replicate 124 none
  statics := none }

def pool1 : Array CpInfo := pool [(2, .class_ 4), (1, u "java/lang/Object"), (0, u "<init>"), (0, u "()V"), (0, .class_ 8), (0, u "com/example/strict_allowlist/strictallowlist/WhitelistMode"), (0, .methodref 7 10), (0, .nameAndType 5 11), (0, u "(I)V"), (0, .fieldref 13 14), (0, .class_ 15), (0, .nameAndType 16 17), (0, u "com/example/strict_allowlist/strictallowlist/WhitelistMode$Flag"), (0, u "ENFORCE"), (0, u "Lcom/example/strict_allowlist/strictallowlist/WhitelistMode$Flag;"), (0, .methodref 7 19), (0, .nameAndType 20 21), (0, u "has"), (0, u "(Lcom/example/strict_allowlist/strictallowlist/WhitelistMode$Flag;)Z"), (0, .fieldref 13 23), (0, .nameAndType 24 17), (0, u "LOG"), (0, .fieldref 13 26), (0, .nameAndType 27 17), (0, u "IMPLICIT_ALL"), (0, .fieldref 13 29), (0, .nameAndType 30 17), (0, u "IMPLICIT_SYSTEM"), (0, .fieldref 13 32), (0, .nameAndType 33 17), (0, u "IGNORE_OTA"), (0, .class_ 35), (0, u "com/example/strict_allowlist/strictallowlist/WhitelistModeHasPinLaw"), (2, u "law"), (0, u "(I)Z")] 5

def k1m0 : Method := { name := "<init>", desc := "()V", sig := { parameters := [], returnType := none }, accessFlags := 2, code := none }
def k1c1 : Code := { maxStack := 3, maxLocals := 8, code := code, exceptionTable := #[], attributes := #[] }
def k1m1 : Method := { name := "law", desc := "(I)Z", sig := { parameters := [.int], returnType := some .boolean }, accessFlags := 9, code := some k1c1 }
/-- com/example/strict_allowlist/strictallowlist/WhitelistModeHasPinLaw -/
def k1 : Class := { plain "com/example/strict_allowlist/strictallowlist/WhitelistModeHasPinLaw" (some 0) with
  accessFlags := 49
  interfaces := #[]
  cf := some (fileOf pool1 34 #[] #[{ accessFlags := 2, nameIndex := 5, descriptorIndex := 6, attributes := #[] }, { accessFlags := 9, nameIndex := 38, descriptorIndex := 39, attributes := #[] }] 49 2 #[] #[])
  fields := #[]
  methods := #[k1m0, k1m1]
  instanceTypes := #[]
  staticTypes := #[]
  resolved := Array.replicate 45 none
  statics := none }

def pool2 : Array CpInfo := pool [(1, .methodref 2 3), (0, .class_ 4), (0, .nameAndType 5 6), (0, u "java/lang/Object"), (0, u "<init>"), (0, u "()V"), (0, .class_ 8), (0, u "java/lang/Record")] 13

def k2c0 : Code := { maxStack := 1, maxLocals := 1, code := jdk_30_method_1_code, exceptionTable := #[], attributes := #[] }
def k2m0 : Method := { name := "<init>", desc := "()V", sig := { parameters := [], returnType := none }, accessFlags := 4, code := some k2c0 }
/-- java/lang/Record -/
def k2 : Class := { plain "java/lang/Record" (some 0) with
  accessFlags := 1057
  interfaces := #[]
  cf := some (fileOf pool2 7 #[] #[{ accessFlags := 4, nameIndex := 5, descriptorIndex := 6, attributes := #[] }] 1057 2 #[] #[])
  fields := #[]
  methods := #[k2m0]
  instanceTypes := #[]
  staticTypes := #[]
  resolved := Array.replicate 22 none
  statics := none }

def pool3 : Array CpInfo := pool [(1, .methodref 2 3), (0, .class_ 4), (0, .nameAndType 5 6), (0, u "java/lang/Record"), (0, u "<init>"), (0, u "()V"), (0, .methodref 8 9), (0, .class_ 10), (0, .nameAndType 11 12), (0, u "com/example/strict_allowlist/strictallowlist/WhitelistMode"), (0, u "isSumOfFlags"), (0, u "(I)Z"), (15, .fieldref 8 29), (0, .nameAndType 30 31), (0, u "value"), (0, u "I"), (0, .fieldref 8 33), (0, .nameAndType 34 31), (0, u "ALL_FLAGS"), (18, u "(I)V"), (3, .fieldref 58 59), (0, .class_ 60), (0, .nameAndType 61 31), (0, u "com/example/strict_allowlist/strictallowlist/WhitelistMode$Flag"), (0, u "bit"), (17, u "has"), (0, u "(Lcom/example/strict_allowlist/strictallowlist/WhitelistMode$Flag;)Z")] 83

def k3c0 : Code := { maxStack := 3, maxLocals := 2, code := prog_37_method_1_code, exceptionTable := #[], attributes := #[] }
def k3m0 : Method := { name := "<init>", desc := "(I)V", sig := { parameters := [.int], returnType := none }, accessFlags := 1, code := some k3c0 }
def k3c1 : Code := { maxStack := 2, maxLocals := 2, code := prog_37_method_3_code, exceptionTable := #[], attributes := #[] }
def k3m1 : Method := { name := "has", desc := "(Lcom/example/strict_allowlist/strictallowlist/WhitelistMode$Flag;)Z", sig := { parameters := [(.object "com/example/strict_allowlist/strictallowlist/WhitelistMode$Flag")], returnType := some .boolean }, accessFlags := 1, code := some k3c1 }
def k3c2 : Code := { maxStack := 3, maxLocals := 1, code := prog_37_method_7_code, exceptionTable := #[], attributes := #[] }
def k3m2 : Method := { name := "isSumOfFlags", desc := "(I)Z", sig := { parameters := [.int], returnType := some .boolean }, accessFlags := 10, code := some k3c2 }
/-- com/example/strict_allowlist/strictallowlist/WhitelistMode -/
def k3 : Class := { plain "com/example/strict_allowlist/strictallowlist/WhitelistMode" (some 2) with
  accessFlags := 49
  interfaces := #[]
  cf := some (fileOf pool3 8 #[.nestMembers #[58]] #[{ accessFlags := 1, nameIndex := 5, descriptorIndex := 53, attributes := #[] }, { accessFlags := 1, nameIndex := 79, descriptorIndex := 80, attributes := #[] }, { accessFlags := 10, nameIndex := 11, descriptorIndex := 12, attributes := #[] }] 49 2 #[] #[{ accessFlags := 18, nameIndex := 30, descriptorIndex := 31, attributes := #[] }, { accessFlags := 26, nameIndex := 34, descriptorIndex := 31, attributes := #[] }])
  fields := #[{ name := "value", type := .int, accessFlags := 18, slot := 0, constantValue := 0 }, { name := "ALL_FLAGS", type := .int, accessFlags := 26, slot := 0, constantValue := 0 }]
  methods := #[k3m0, k3m1, k3m2]
  instanceTypes := #[.int]
  staticTypes := #[.int]
  resolved := (Array.replicate 164 none).setIfInBounds 57 (some (.field 8 5))
  statics := some 0 }

def pool4 : Array CpInfo := pool [(1, .class_ 2), (0, u "java/lang/constant/Constable"), (0, .class_ 4), (0, u "java/lang/Object")] 6

/-- java/lang/constant/Constable -/
def k4 : Class := { plain "java/lang/constant/Constable" (some 0) with
  accessFlags := 1537
  interfaces := #[]
  cf := some (fileOf pool4 1 #[] #[] 1537 3 #[] #[])
  fields := #[]
  methods := #[]
  instanceTypes := #[]
  staticTypes := #[]
  resolved := Array.replicate 11 none
  statics := none }

def pool5 : Array CpInfo := pool [(1, .class_ 2), (0, u "java/lang/Comparable"), (0, .class_ 4), (0, u "java/lang/Object")] 7

/-- java/lang/Comparable -/
def k5 : Class := { plain "java/lang/Comparable" (some 0) with
  accessFlags := 1537
  interfaces := #[]
  cf := some (fileOf pool5 1 #[] #[] 1537 3 #[] #[])
  fields := #[]
  methods := #[]
  instanceTypes := #[]
  staticTypes := #[]
  resolved := Array.replicate 12 none
  statics := none }

def pool6 : Array CpInfo := pool [(1, .class_ 2), (0, u "java/io/Serializable"), (0, .class_ 4), (0, u "java/lang/Object")] 2

/-- java/io/Serializable -/
def k6 : Class := { plain "java/io/Serializable" (some 0) with
  accessFlags := 1537
  interfaces := #[]
  cf := some (fileOf pool6 1 #[] #[] 1537 3 #[] #[])
  fields := #[]
  methods := #[]
  instanceTypes := #[]
  staticTypes := #[]
  resolved := Array.replicate 7 none
  statics := none }

def pool7 : Array CpInfo := pool [(2, .class_ 4), (1, u "java/lang/Enum"), (0, u "name"), (0, u "Ljava/lang/String;"), (2, u "ordinal"), (0, u "I"), (1, .class_ 14), (1, u "java/lang/Object"), (4, u "hash"), (86, .class_ 108), (1, u "java/lang/Enum$EnumDesc"), (2, .class_ 112), (0, u "java/lang/constant/Constable"), (0, .class_ 114), (0, u "java/lang/Comparable"), (0, .class_ 116), (0, u "java/io/Serializable")] 87

/-- java/lang/Enum -/
def k7 : Class := { plain "java/lang/Enum" (some 0) with
  accessFlags := 1057
  interfaces := #[4, 5, 6]
  cf := some (fileOf pool7 2 #[.nestMembers #[106]] #[] 1057 12 #[111, 113, 115] #[{ accessFlags := 18, nameIndex := 5, descriptorIndex := 6, attributes := #[] }, { accessFlags := 18, nameIndex := 9, descriptorIndex := 10, attributes := #[] }, { accessFlags := 2, nameIndex := 19, descriptorIndex := 10, attributes := #[] }])
  fields := #[{ name := "name", type := (.object "java/lang/String"), accessFlags := 18, slot := 0, constantValue := 0 }, { name := "ordinal", type := .int, accessFlags := 18, slot := 1, constantValue := 0 }, { name := "hash", type := .int, accessFlags := 2, slot := 2, constantValue := 0 }]
  methods := #[]
  instanceTypes := #[(.object "java/lang/String"), .int, .int]
  staticTypes := #[]
  resolved := Array.replicate 204 none
  statics := none }

def pool8 : Array CpInfo := pool [(1, .class_ 2), (0, u "com/example/strict_allowlist/strictallowlist/WhitelistMode$Flag"), (2, u "ENFORCE"), (0, u "Lcom/example/strict_allowlist/strictallowlist/WhitelistMode$Flag;"), (2, u "LOG"), (2, u "IMPLICIT_ALL"), (2, u "IMPLICIT_SYSTEM"), (2, u "IGNORE_OTA"), (2, u "$VALUES"), (0, u "[Lcom/example/strict_allowlist/strictallowlist/WhitelistMode$Flag;"), (6, .class_ 31), (1, u "java/lang/Enum"), (8, u "bit"), (0, u "I"), (2, u "label"), (0, u "Ljava/lang/String;"), (37, .class_ 84), (0, u "com/example/strict_allowlist/strictallowlist/WhitelistMode")] 2

/-- com/example/strict_allowlist/strictallowlist/WhitelistMode$Flag -/
def k8 : Class := { plain "com/example/strict_allowlist/strictallowlist/WhitelistMode$Flag" (some 7) with
  accessFlags := 16433
  interfaces := #[]
  cf := some (fileOf pool8 1 #[.nestHost 83] #[] 16433 29 #[] #[{ accessFlags := 16409, nameIndex := 5, descriptorIndex := 6, attributes := #[] }, { accessFlags := 16409, nameIndex := 9, descriptorIndex := 6, attributes := #[] }, { accessFlags := 16409, nameIndex := 12, descriptorIndex := 6, attributes := #[] }, { accessFlags := 16409, nameIndex := 15, descriptorIndex := 6, attributes := #[] }, { accessFlags := 16409, nameIndex := 18, descriptorIndex := 6, attributes := #[] }, { accessFlags := 18, nameIndex := 40, descriptorIndex := 41, attributes := #[] }, { accessFlags := 18, nameIndex := 44, descriptorIndex := 45, attributes := #[] }, { accessFlags := 4122, nameIndex := 21, descriptorIndex := 22, attributes := #[] }])
  fields := #[{ name := "ENFORCE", type := (.object "com/example/strict_allowlist/strictallowlist/WhitelistMode$Flag"), accessFlags := 16409, slot := 0, constantValue := 0 }, { name := "LOG", type := (.object "com/example/strict_allowlist/strictallowlist/WhitelistMode$Flag"), accessFlags := 16409, slot := 1, constantValue := 0 }, { name := "IMPLICIT_ALL", type := (.object "com/example/strict_allowlist/strictallowlist/WhitelistMode$Flag"), accessFlags := 16409, slot := 2, constantValue := 0 }, { name := "IMPLICIT_SYSTEM", type := (.object "com/example/strict_allowlist/strictallowlist/WhitelistMode$Flag"), accessFlags := 16409, slot := 3, constantValue := 0 }, { name := "IGNORE_OTA", type := (.object "com/example/strict_allowlist/strictallowlist/WhitelistMode$Flag"), accessFlags := 16409, slot := 4, constantValue := 0 }, { name := "bit", type := .int, accessFlags := 18, slot := 3, constantValue := 0 }, { name := "label", type := (.object "java/lang/String"), accessFlags := 18, slot := 4, constantValue := 0 }, { name := "$VALUES", type := (.array (.object "com/example/strict_allowlist/strictallowlist/WhitelistMode$Flag")), accessFlags := 4122, slot := 5, constantValue := 0 }]
  methods := #[]
  instanceTypes := #[(.object "java/lang/String"), .int, .int, .int, (.object "java/lang/String")]
  staticTypes := #[(.object "com/example/strict_allowlist/strictallowlist/WhitelistMode$Flag"), (.object "com/example/strict_allowlist/strictallowlist/WhitelistMode$Flag"), (.object "com/example/strict_allowlist/strictallowlist/WhitelistMode$Flag"), (.object "com/example/strict_allowlist/strictallowlist/WhitelistMode$Flag"), (.object "com/example/strict_allowlist/strictallowlist/WhitelistMode$Flag"), (.array (.object "com/example/strict_allowlist/strictallowlist/WhitelistMode$Flag"))]
  resolved := Array.replicate 87 none
  statics := some 1 }

def pool9 : Array CpInfo := pool [(1, u "java/lang/Cloneable"), (0, .class_ 1), (0, u "java/lang/Object"), (0, .class_ 3)] 3

/-- java/lang/Cloneable -/
def k9 : Class := { plain "java/lang/Cloneable" (some 0) with
  accessFlags := 1537
  interfaces := #[]
  cf := some (fileOf pool9 2 #[] #[] 1537 4 #[] #[])
  fields := #[]
  methods := #[]
  instanceTypes := #[]
  staticTypes := #[]
  resolved := Array.replicate 8 none
  statics := none }

/-- the primitive byte -/
def k10 : Class := { plain "byte" none with kind := .primitive 'B', accessFlags := 0x411 }
/-- [B -/
def k11 : Class := { plain "[B" (some 0) with kind := .array 10 .byte, interfaces := #[9, 6], accessFlags := 1041 }

/-- the primitive int -/
def k12 : Class := { plain "int" none with kind := .primitive 'I', accessFlags := 0x411 }
/-- [I -/
def k13 : Class := { plain "[I" (some 0) with kind := .array 12 .int, interfaces := #[9, 6], accessFlags := 1041 }

def heap : Heap := #[{ cls := 3, slots := #[.int 31], vm := .statics 3 },
  { cls := 8, slots := #[.ref 2, .ref 3, .ref 4, .ref 5, .ref 6, .null], vm := .statics 8 },
  { cls := 8, slots := #[.null, .int 0, .int 0, .int 1, .null], vm := .none },
  { cls := 8, slots := #[.null, .int 0, .int 0, .int 2, .null], vm := .none },
  { cls := 8, slots := #[.null, .int 0, .int 0, .int 4, .null], vm := .none },
  { cls := 8, slots := #[.null, .int 0, .int 0, .int 8, .null], vm := .none },
  { cls := 8, slots := #[.null, .int 0, .int 0, .int 16, .null], vm := .none }]
def classes : Array Class := #[k0, k1, k2, k3, k4, k5, k6, k7, k8, k9, k10, k11, k12, k13]
def interned : List (Array UInt16 × Addr) := []
def slotsUsed : Nat := 32
def theMethod : MethodId := ⟨1, 1⟩
def args0 : Array Value := #[.int 5]
def aboutOver (below : List Frame) : State where
  vm := { classes := classes, interned := interned.toArray }
  heap := heap
  slotsUsed := slotsUsed
  threads := #[{ frames := .invoking theMethod args0 :: below }]
def below0 : List Frame := [.native { method := ⟨0, 0⟩, args := #[] }]
def about1 : State := aboutOver below0
def p0 : Program := .bare "" "" ""
def e0 : Env := launch0.env 0 0 0
theorem w_frames : about1.frames = Frame.invoking theMethod args0 :: below0 := rfl
set_option maxRecDepth 65536 in
theorem w_args : argsFit about1.vm theMethod args0 = true := by decide +kernel
set_option maxRecDepth 65536 in
theorem w_heap : heapFits about1 = true := by decide +kernel
set_option maxRecDepth 65536 in
theorem w_runnable : about1.curStatus? = some .runnable := by decide +kernel
set_option maxRecDepth 65536 in
theorem w_alone : about1.alone = true := by decide +kernel
set_option maxRecDepth 65536 in
theorem w_named : about1.methodNamed? x = some theMethod := by decide +kernel
set_option maxRecDepth 65536 in
theorem w_hears : about1.hears theMethod below0 = true := by decide +kernel
set_option maxRecDepth 65536 in
theorem w_ripe : about1.ripe theMethod args0 below0 = true := by decide +kernel
theorem w_running : about1.status = .running := rfl
set_option maxRecDepth 65536 in
theorem w_room : about1.hasRoom e0.platform room_1 = true :=
  launch0.hasRoom_least _ room_1 (by decide +kernel) (by decide +kernel) (by decide +kernel) (by decide +kernel) (by decide +kernel) (by decide +kernel)
theorem allAtoms_all (ts : List Jvm.Cond) (a : Array Jvm.Value) (st : Jvm.State) : (allAtoms ts).before a st = ts.all (fun c => c.before a st) := by
  induction ts with
  | nil => rfl
  | cons c t ih =>
    show (Jvm.Cond.and c (allAtoms t)).before a st = _
    rw [Jvm.Cond.before_and, ih, List.all_cons]
def words1 : List Jvm.Cond := Jvm.Cond.code x code maxLocals ret :: tables_1
/-- a 'code' word, met by the world's own term for the bytes: nothing is compared byte by byte -/
theorem code_word {y : MethodName} {bytes : ByteArray} {mx : Nat} {rt : Option FieldType} {a : Array Value} {s : State} {m : MethodId} {meth : Method} {c : Code} (h1 : s.methodNamed? y = some m) (h2 : s.vm.method? m = some meth) (h3 : meth.code = some c) (h4 : c.code = bytes)
    (h5 : (c.maxLocals == mx && c.exceptionTable.isEmpty && decide (c.maxStack ≤ mostOperands) && decide (meth.sig.returnType = rt) && !meth.locks && decide (parseMethodDescriptor y.desc = some meth.sig)) = true) : (Jvm.Cond.code y bytes mx rt).before a s = true := by
  simp only [Bool.and_eq_true, beq_iff_eq, Bool.not_eq_true', decide_eq_true_eq] at h5
  obtain ⟨⟨⟨⟨⟨g1, g2⟩, g3⟩, g4⟩, g5⟩, g6⟩ := h5
  simp [Cond.before, Cond.holds, Cond.value, h1, h2, h3, h4, g1, g2, g3, g4, g5, g6]
def isCode : Jvm.Cond → Bool
  | .code _ _ _ _ => true
  | _ => false
theorem all_split {L : List Jvm.Cond} {P : Jvm.Cond → Bool} (h1 : L.all (fun c => isCode c || P c) = true) (h2 : ∀ c ∈ L.filter isCode, P c = true) : L.all P = true := by
  refine List.all_eq_true.mpr fun c hc => ?_
  have h := List.all_eq_true.mp h1 c hc
  rcases Bool.eq_false_or_eq_true (isCode c) with hi | hi
  · exact h2 c (List.mem_filter.mpr ⟨hc, hi⟩)
  · simpa [hi] using h
set_option maxRecDepth 65536 in
theorem w_c0 : (Jvm.Cond.code x code maxLocals ret).before args0 about1 = true := code_word (m := ⟨1, 1⟩) (meth := k1m1) (c := k1c1) (by decide +kernel) rfl rfl rfl (by decide +kernel)
set_option maxRecDepth 65536 in
theorem w_c1 : (Jvm.Cond.code ({ cls := "com/example/strict_allowlist/strictallowlist/WhitelistMode", name := "<init>", desc := "(I)V" } : Jvm.MethodName) prog_37_method_1_code (2 : Nat) (Option.none : Option Jvm.ClassFile.FieldType)).before args0 about1 = true := code_word (m := ⟨3, 0⟩) (meth := k3m0) (c := k3c0) (by decide +kernel) rfl rfl rfl (by decide +kernel)
set_option maxRecDepth 65536 in
theorem w_c2 : (Jvm.Cond.code ({ cls := "java/lang/Record", name := "<init>", desc := "()V" } : Jvm.MethodName) jdk_30_method_1_code (1 : Nat) (Option.none : Option Jvm.ClassFile.FieldType)).before args0 about1 = true := code_word (m := ⟨2, 0⟩) (meth := k2m0) (c := k2c0) (by decide +kernel) rfl rfl rfl (by decide +kernel)
set_option maxRecDepth 65536 in
theorem w_c3 : (Jvm.Cond.code ({ cls := "java/lang/Object", name := "<init>", desc := "()V" } : Jvm.MethodName) object_method_1_code (1 : Nat) (Option.none : Option Jvm.ClassFile.FieldType)).before args0 about1 = true := code_word (m := ⟨0, 0⟩) (meth := k0m0) (c := k0c0) (by decide +kernel) rfl rfl rfl (by decide +kernel)
set_option maxRecDepth 65536 in
theorem w_c4 : (Jvm.Cond.code ({ cls := "com/example/strict_allowlist/strictallowlist/WhitelistMode", name := "isSumOfFlags", desc := "(I)Z" } : Jvm.MethodName) prog_37_method_7_code (1 : Nat) (Option.some Jvm.ClassFile.FieldType.boolean)).before args0 about1 = true := code_word (m := ⟨3, 2⟩) (meth := k3m2) (c := k3c2) (by decide +kernel) rfl rfl rfl (by decide +kernel)
set_option maxRecDepth 65536 in
theorem w_c5 : (Jvm.Cond.code ({ cls := "com/example/strict_allowlist/strictallowlist/WhitelistMode", name := "has", desc := "(Lcom/example/strict_allowlist/strictallowlist/WhitelistMode$Flag;)Z" } : Jvm.MethodName) prog_37_method_3_code (2 : Nat) (Option.some Jvm.ClassFile.FieldType.boolean)).before args0 about1 = true := code_word (m := ⟨3, 1⟩) (meth := k3m1) (c := k3c1) (by decide +kernel) rfl rfl rfl (by decide +kernel)
def codes1 : List Jvm.Cond := [Jvm.Cond.code x code maxLocals ret, Jvm.Cond.code ({ cls := "com/example/strict_allowlist/strictallowlist/WhitelistMode", name := "<init>", desc := "(I)V" } : Jvm.MethodName) prog_37_method_1_code (2 : Nat) (Option.none : Option Jvm.ClassFile.FieldType), Jvm.Cond.code ({ cls := "java/lang/Record", name := "<init>", desc := "()V" } : Jvm.MethodName) jdk_30_method_1_code (1 : Nat) (Option.none : Option Jvm.ClassFile.FieldType), Jvm.Cond.code ({ cls := "java/lang/Object", name := "<init>", desc := "()V" } : Jvm.MethodName) object_method_1_code (1 : Nat) (Option.none : Option Jvm.ClassFile.FieldType), Jvm.Cond.code ({ cls := "com/example/strict_allowlist/strictallowlist/WhitelistMode", name := "isSumOfFlags", desc := "(I)Z" } : Jvm.MethodName) prog_37_method_7_code (1 : Nat) (Option.some Jvm.ClassFile.FieldType.boolean), Jvm.Cond.code ({ cls := "com/example/strict_allowlist/strictallowlist/WhitelistMode", name := "has", desc := "(Lcom/example/strict_allowlist/strictallowlist/WhitelistMode$Flag;)Z" } : Jvm.MethodName) prog_37_method_3_code (2 : Nat) (Option.some Jvm.ClassFile.FieldType.boolean)]
set_option maxRecDepth 65536 in
theorem codes_eq : words1.filter isCode = codes1 := rfl
theorem w_codes : ∀ c ∈ words1.filter isCode, c.before args0 about1 = true := by
  rw [codes_eq]
  intro c hc
  simp only [codes1, List.mem_cons, List.not_mem_nil, or_false] at hc
  rcases hc with rfl | rfl | rfl | rfl | rfl | rfl
  · exact w_c0
  · exact w_c1
  · exact w_c2
  · exact w_c3
  · exact w_c4
  · exact w_c5
set_option maxRecDepth 65536 in
theorem w_t1 : (words1.take 24).all (fun c => isCode c || c.before args0 about1) = true := by decide +kernel
set_option maxRecDepth 65536 in
theorem w_t2 : (words1.drop 24).all (fun c => isCode c || c.before args0 about1) = true := by decide +kernel
theorem w_tables : (allAtoms (Jvm.Cond.code x code maxLocals ret :: tables_1)).before args0 about1 = true := by
  rw [allAtoms_all]
  show words1.all (fun c => c.before args0 about1) = true
  refine all_split ?_ w_codes
  rw [← List.take_append_drop 24 words1, List.all_append, w_t1, w_t2]
  rfl
set_option maxRecDepth 65536 in
theorem w_case : (Jvm.Cond.and given_1 narrow_1).before args0 about1 = true := by decide +kernel
theorem w_applies : (headSpec (Jvm.Cond.code x code maxLocals ret :: tables_1) room_1).applies x e0.platform about1 = true :=
  (Spec.applies_iff w_frames).mpr ⟨w_running, w_runnable, w_alone, w_named, w_hears, w_ripe, w_room, w_tables⟩
theorem atStart : AtStart classFile x code maxLocals ret World_1 tables_1 room_1 Calls_1 rest_1 Pre_1 launch0 p0 e0 about1 theMethod args0 below0 :=
  ⟨lists_1, trivial, launch0.admits_env _ _ _, launch0.least_env, fairChoices_fair.cas, fairChoices_fair.clock, w_frames, w_args, w_heap, w_applies, trivial, trivial, w_case⟩
end start1
theorem witness_1 : WitnessClaimed_1 := ⟨start1.p0, start1.e0, start1.about1, start1.theMethod, start1.args0, start1.below0, start1.atStart⟩
end Jvm.Pilot.@@N@@
