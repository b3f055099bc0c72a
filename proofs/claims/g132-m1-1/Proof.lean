import JvmDerived
import JvmDerived.Pilot.@@N@@Statement
import JvmDerived.Pilot.@@N@@Code
set_option linter.unusedVariables false
set_option linter.unusedSimpArgs false
namespace Jvm.RoadKit
open Sem ClassFile Op Lib Jvm.Stand Jvm.Free Jvm.LawKit
section New
variable {p : Program} {l : Launch} {e : Env} {R : Room} {s : State} {m : MethodId} {args : Array Value} {below : List Frame} {meth : Method} {c : Code} {T : State} {locs : List Loc} {cells slots : Nat}
theorem retI (X : Stand p l e R s m args below meth c T locs cells slots) (hx : p.tables.exec = Jvm.exec) {pc : Nat} {Ls : Array Slot} {z : Int32} {rest : List Value} (hret : meth.sig.returnType = some .int) (hd : decode c.code pc = .ok (.ireturn, 1)) {fs : List Frame}
    (hl : ∀ (f : JFrame) (acts : List Action), f.method = m → f.locked = none → f.entered = [] → (doReturn e (T.setTop f) acts (some (.int z))).1 = T.setFrames fs) : Steps p.tables e below (T.setTop (mkF m pc Ls (.int z :: rest))) (T.setFrames fs) :=
  retOut X hx hret rfl (Or.inl ⟨rfl, Or.inl rfl, _, rfl⟩) hd hl
end New
end Jvm.RoadKit
namespace Jvm.Pilot.@@N@@
open Jvm Jvm.ClassFile Sem Op Lib Jvm.Free Jvm.Stand Jvm.LawKit Jvm.RoadKit Bundle Jvm.Pilot.@@N@@.Jvm.D
abbrev uR (a : Addr) : Slot := .val (.ref a)
abbrev uL (a : Int64) : Slot := .val (.long a)
abbrev uI (a : Int32) : Slot := .val (.int a)
abbrev uS : Slot := .second
abbrev uU : Slot := .unset
abbrev KC : String := "com/example/consort/consort/storage/BatchIndex"
abbrev KB : String := "baseOffsets"
abbrev KP : String := "positions"
abbrev KM : String := "maxTimestampsSoFar"
abbrev KL : String := "com/example/consort/consort/storage/BatchIndexFirstReachingPinLaw"
theorem own_w {Z : State} {a0 : Array Value} (hw : ∀ d ∈ tables_1, d.before a0 Z = true) {i : Nat} {d : Jvm.Cond} (h : tables_1[i]? = some d) : d.before a0 Z = true := hw _ (List.mem_of_getElem? h)
theorem own_sel {s : State} {args : Array Value} {y : MethodName} {n : Nat} (wi : (Jvm.Cond.instantiable y.cls n).before args s = true) (hp : s.PrivateAt y) (hi : (Jvm.Cond.instanceMethod y).before args s = true) (hy : y.cls ≠ "java/lang/invoke/MethodHandle" ∧ y.cls ≠ "java/lang/invoke/VarHandle") : (Jvm.Cond.selects y.cls y y).before args s = true := by
  obtain ⟨c, k, h1, h2, h3, h4, -⟩ := Cond.instantiable_spec wi
  exact selects_self_of_private h1 h2 (Bool.or_eq_false_iff.mp h4).1 hp hi hy
theorem own_cp0 {p : Program} {l : Launch} {e : Env} {R : Room} {s : State} {m : MethodId} {args : Array Value} {below : List Frame} {meth : Method} {c : Code} {T : State} {locs : List Loc} {cells slots : Nat} {Z : State} {a0 : Array Value} {h : Heap} {a b : Addr} {k k' : ClassId} {ty : FieldType} {z z' sp dp : Int32} {vs vd : List Value} {dv dd : Value}
    (X : Stand p l e R s m args below meth c T locs cells slots) (hx : p.tables.exec = Jvm.exec) (hZ : Z.Warmed39 s.vm) {own : String} {index : Nat} (hown : s.vm.findClass own = some m.cls)
    (w1 : (Jvm.Cond.methodLink own index Jvm.Stand.acN).before a0 Z = true) (w2 : (Jvm.Cond.native Jvm.Stand.acN).before a0 Z = true) (w3 : (Jvm.Cond.static Jvm.Stand.acN).before a0 Z = true) (w4 : (Jvm.Cond.initialized "java/lang/System").before a0 Z = true) (eT : T.heap = h)
    (A : Arv Z h a k ty z vs dv) (B : Arv Z h b k' ty z' vd dd) (hp : refKind ty = false) (h1 : ¬ sp < 0) (h2 : ¬ dp < 0) (h4 : sp.toNatClampNeg ≤ z.toNatClampNeg) (h5 : dp.toNatClampNeg ≤ z'.toNatClampNeg)
    {g : JFrame} (hg : g.method = m) (hsize : g.locals.size = c.maxLocals) {rest : List Value} (hs : g.stack = .int 0 :: .int dp :: .ref b :: .int sp :: .ref a :: rest) (hd : decode c.code g.pc = .ok (.invokestatic index, 3))
    (hf : 1 ≤ R.frames) {W : Nat} (hW : 2 * g.monitorRoom + (rest.map fun v => v.category).sum ≤ W) (hlo : W + (nativeFrameWords "java/lang/System" "arraycopy" 5 + 11) ≤ R.locals) :
    ∃ T', Stand p l e R s m args below meth c T' locs cells slots ∧ T'.heap = h ∧ ∀ target, Steps p.tables e below (T'.setTop { g with pc := g.pc + 3, stack := rest }) target → Steps p.tables e below (T.setTop g) target := by
  obtain ⟨cs, As, -, Ss, -, Hs, Gs⟩ := A
  obtain ⟨cd, Ad, qd, Sd, Nd, Hd, Gd⟩ := B
  obtain ⟨os, ks, hks, sc, hsk⟩ := State.isArrayOf_alike hZ.alike As.2.1
  obtain ⟨od, kd, hkd, dc, hdk⟩ := State.isArrayOf_alike hZ.alike Ad.2.1
  have n1 := nat_of h1
  have n2 := nat_of h2
  have n0 : (0 : Int32).toInt = 0 := by decide
  have r4 : ¬ sp.toInt + (0 : Int32).toInt > (cs.slots.size : Int) := by rw [n0, n1, Ss]; omega
  have r5 : ¬ dp.toInt + (0 : Int32).toInt > (cd.slots.size : Int) := by rw [n0, n2, Sd]; omega
  have r6 : (0 : Int32).toNatClampNeg = 0 := by decide
  obtain ⟨vm₁, -, X', st⟩ := X.arraycopyK hx hown (mvT hZ w1) (mvT hZ w2) (mvT hZ w3) (mvT hZ w4) (by rw [eT]; exact As.1) (by rw [eT]; exact Ad.1) os od As.2.2 Ad.2.2 hks hkd hsk hdk (by simp [hp]) h1 h2 (by decide) r4 r5 (fun vm₁ hw i hi => absurd hi (by rw [r6]; exact Nat.not_lt_zero _)) hg hsize hs hd hf (Nat.le_trans (Nat.add_le_add_right hW _) hlo)
  have hl : locs ++ copyLocs b dp.toNatClampNeg (0 : Int32).toNatClampNeg = locs := by rw [r6]; show locs ++ [] = locs; exact List.append_nil _
  rw [hl] at X'
  refine ⟨_, X', ?_, st⟩
  have hc : copied cs cd sp dp 0 = cd := rfl
  rw [hc]
  show T.heap.setIfInBounds b cd = h
  rw [eT]
  apply Array.ext_getElem?
  intro i
  by_cases u : b = i
  · subst u
    rw [Array.getElem?_setIfInBounds_self_of_lt Ad.lt]; exact Ad.1.symm
  · rw [Array.getElem?_setIfInBounds_ne u]
theorem d8_0 : decode jdk_29_method_65_code 0 = .ok (.iload_n 0, 1) := by decide +kernel
theorem d8_1 : decode jdk_29_method_65_code 1 = .ok (.iload_n 1, 1) := by decide +kernel
theorem d8_2 : decode jdk_29_method_65_code 2 = .ok (.if_icmp .lt 7, 3) := by decide +kernel
theorem d8_5 : decode jdk_29_method_65_code 5 = .ok (.iload_n 0, 1) := by decide +kernel
theorem d8_6 : decode jdk_29_method_65_code 6 = .ok (.goto 4, 3) := by decide +kernel
theorem d8_10 : decode jdk_29_method_65_code 10 = .ok (.ireturn, 1) := by decide +kernel
theorem ef_mx1 (m : MethodId) (x0 : Int32) (x1 : Int32) : entryFrame m #[(.int x0), (.int x1)] 2 = mkF m 0 #[.val (.int x0), .val (.int x1)] [] := by first | (simp [entryFrame, mkF, argsToLocals, Value.category]; done) | rfl
abbrev R_mx1 : Room := { frames := 0, cells := 0, slots := 0, locals := 0 }
def Qmx1 (Z : State) (p1 : Int32) (p2 : Int32) (h0 : Heap) (n0 : Nat) (v : Option Value) (h : Heap) (L : List Loc) : Prop := v = some (.int p1) ∧ Fr n0 L ∧ h = h0
set_option maxRecDepth 65536 in
set_option maxHeartbeats 40000000 in
theorem rmmx1 (l : Launch) (Z : State) (a0 : Array Value) (hw : ∀ d ∈ tables_1, d.before a0 Z = true) (ws : List Jvm.Cond) (p1 : Int32) (p2 : Int32) (h0 : Heap) (n0 : Nat) (Z0 : n0 ≤ h0.size) (h1 : ¬ (p1 < p2)) :
    MetFree l (⟨"java/lang/Math", "max", "(II)I"⟩ : MethodName) (head1 (Jvm.Cond.code (⟨"java/lang/Math", "max", "(II)I"⟩ : MethodName) jdk_29_method_65_code 2 (some .int) :: ws) R_mx1) (fun a U => a = #[(.int p1), (.int p2)] ∧ Z.Warmed39 U.vm ∧ U.heap = h0) (fun _ _ _ _ _ => True) (fun _ U o U' => ∃ v L, o = .returned v ∧ Qmx1 Z p1 p2 h0 n0 v U'.heap L ∧ FrameEnd U o U' L R_mx1.cells R_mx1.slots) := by
  refine MetFree.of_bodySF (Jvm.Free.JP.mathPlain rfl (by decide +kernel)) hisR ?_
  intro p e s m args below meth c s₁ Bd hml0 hP hK
  obtain ⟨rfl, hZ, hh⟩ := hP
  have hx := Bd.exec
  have hby := Bd.bytes
  have hml : c.maxLocals = 2 := hml0
  have hown : s.vm.findClass "java/lang/Math" = some m.cls := findClass_of_methodNamed Bd.named
  have hnm := (name_of_methodNamed Bd.named Bd.method).1
  have X0 : Stand p l e R_mx1 s m #[(.int p1), (.int p2)] below meth c s₁ [] 0 0 := Stand.of_body Bd
  have e0 : s₁.heap = h0 := by rw [← hh, Bd.state]; rfl
  have N0 := Fr.nil n0
  have pre0 : ∀ t, Steps p.tables e below (s₁.setTop (mkF m 0 #[uI p1, uI p2] [])) t → Steps p.tables e below (s₁.setTop (entryFrame m #[(.int p1), (.int p2)] 2)) t := fun t k => castTop (ef_mx1 m p1 p2) k
  obtain ⟨fs, hr, hrun, hended, hW, hsame⟩ := X0.leave (v := some (.int p1)) (fun h => by rw [Bd.returns] at h; cases h) Bd.notSynchronized
  refine ⟨_, _, pre0 _ ?_, hrun, hended, _, _, rfl, ?_, ⟨_, rfl⟩, hW, hsame.mono (by decide) (by decide)⟩
  · show Steps p.tables e below (s₁.setTop (mkF m 0 #[uI p1, uI p2] [])) _
    refine XS.iloadN X0.here hx rfl (hb hby d8_0) rfl ?_
    refine XS.iloadN X0.here hx rfl (hb hby d8_1) rfl ?_
    show Steps p.tables e below (s₁.setTop (mkF m 2 #[uI p1, uI p2] [(.int p2), (.int p1)])) _
    refine XS.icmpNo X0.here hx rfl (hb hby d8_2) rfl (flt h1).1 ?_
    refine XS.iloadN X0.here hx rfl (hb hby d8_5) rfl ?_
    refine XS.goto X0.here hx rfl (pc0 := 6) (pc' := 10) rfl (hb hby d8_6) (by decide) (by decide) ?_
    exact retI X0 hx Bd.returns (hb hby d8_10) hr
  · show Qmx1 Z p1 p2 h0 n0 _ s₁.heap _
    rw [e0]
    exact ⟨rfl, N0, rfl⟩
theorem d8_9 : decode jdk_29_method_65_code 9 = .ok (.iload_n 1, 1) := by decide +kernel
theorem ef_mx2 (m : MethodId) (x0 : Int32) (x1 : Int32) : entryFrame m #[(.int x0), (.int x1)] 2 = mkF m 0 #[.val (.int x0), .val (.int x1)] [] := by first | (simp [entryFrame, mkF, argsToLocals, Value.category]; done) | rfl
abbrev R_mx2 : Room := { frames := 0, cells := 0, slots := 0, locals := 0 }
def Qmx2 (Z : State) (p1 : Int32) (p2 : Int32) (h0 : Heap) (n0 : Nat) (v : Option Value) (h : Heap) (L : List Loc) : Prop := v = some (.int p2) ∧ Fr n0 L ∧ h = h0
set_option maxRecDepth 65536 in
set_option maxHeartbeats 40000000 in
theorem rmmx2 (l : Launch) (Z : State) (a0 : Array Value) (hw : ∀ d ∈ tables_1, d.before a0 Z = true) (ws : List Jvm.Cond) (p1 : Int32) (p2 : Int32) (h0 : Heap) (n0 : Nat) (Z0 : n0 ≤ h0.size) (h1 : p1 < p2) :
    MetFree l (⟨"java/lang/Math", "max", "(II)I"⟩ : MethodName) (head1 (Jvm.Cond.code (⟨"java/lang/Math", "max", "(II)I"⟩ : MethodName) jdk_29_method_65_code 2 (some .int) :: ws) R_mx2) (fun a U => a = #[(.int p1), (.int p2)] ∧ Z.Warmed39 U.vm ∧ U.heap = h0) (fun _ _ _ _ _ => True) (fun _ U o U' => ∃ v L, o = .returned v ∧ Qmx2 Z p1 p2 h0 n0 v U'.heap L ∧ FrameEnd U o U' L R_mx2.cells R_mx2.slots) := by
  refine MetFree.of_bodySF (Jvm.Free.JP.mathPlain rfl (by decide +kernel)) hisR ?_
  intro p e s m args below meth c s₁ Bd hml0 hP hK
  obtain ⟨rfl, hZ, hh⟩ := hP
  have hx := Bd.exec
  have hby := Bd.bytes
  have hml : c.maxLocals = 2 := hml0
  have hown : s.vm.findClass "java/lang/Math" = some m.cls := findClass_of_methodNamed Bd.named
  have hnm := (name_of_methodNamed Bd.named Bd.method).1
  have X0 : Stand p l e R_mx2 s m #[(.int p1), (.int p2)] below meth c s₁ [] 0 0 := Stand.of_body Bd
  have e0 : s₁.heap = h0 := by rw [← hh, Bd.state]; rfl
  have N0 := Fr.nil n0
  have pre0 : ∀ t, Steps p.tables e below (s₁.setTop (mkF m 0 #[uI p1, uI p2] [])) t → Steps p.tables e below (s₁.setTop (entryFrame m #[(.int p1), (.int p2)] 2)) t := fun t k => castTop (ef_mx2 m p1 p2) k
  obtain ⟨fs, hr, hrun, hended, hW, hsame⟩ := X0.leave (v := some (.int p2)) (fun h => by rw [Bd.returns] at h; cases h) Bd.notSynchronized
  refine ⟨_, _, pre0 _ ?_, hrun, hended, _, _, rfl, ?_, ⟨_, rfl⟩, hW, hsame.mono (by decide) (by decide)⟩
  · show Steps p.tables e below (s₁.setTop (mkF m 0 #[uI p1, uI p2] [])) _
    refine XS.iloadN X0.here hx rfl (hb hby d8_0) rfl ?_
    refine XS.iloadN X0.here hx rfl (hb hby d8_1) rfl ?_
    show Steps p.tables e below (s₁.setTop (mkF m 2 #[uI p1, uI p2] [(.int p2), (.int p1)])) _
    refine XS.icmpYes X0.here hx rfl (pc0 := 2) (pc' := 9) rfl (hb hby d8_2) rfl (tlt h1).1 (by decide) (by decide) ?_
    refine XS.iloadN X0.here hx rfl (hb hby d8_9) rfl ?_
    exact retI X0 hx Bd.returns (hb hby d8_10) hr
  · show Qmx2 Z p1 p2 h0 n0 _ s₁.heap _
    rw [e0]
    exact ⟨rfl, N0, rfl⟩
theorem d11_0 : decode jdk_29_method_69_code 0 = .ok (.iload_n 0, 1) := by decide +kernel
theorem d11_1 : decode jdk_29_method_69_code 1 = .ok (.iload_n 1, 1) := by decide +kernel
theorem d11_2 : decode jdk_29_method_69_code 2 = .ok (.if_icmp .gt 7, 3) := by decide +kernel
theorem d11_5 : decode jdk_29_method_69_code 5 = .ok (.iload_n 0, 1) := by decide +kernel
theorem d11_6 : decode jdk_29_method_69_code 6 = .ok (.goto 4, 3) := by decide +kernel
theorem d11_10 : decode jdk_29_method_69_code 10 = .ok (.ireturn, 1) := by decide +kernel
theorem ef_mn1 (m : MethodId) (x0 : Int32) (x1 : Int32) : entryFrame m #[(.int x0), (.int x1)] 2 = mkF m 0 #[.val (.int x0), .val (.int x1)] [] := by first | (simp [entryFrame, mkF, argsToLocals, Value.category]; done) | rfl
abbrev R_mn1 : Room := { frames := 0, cells := 0, slots := 0, locals := 0 }
def Qmn1 (Z : State) (p1 : Int32) (p2 : Int32) (h0 : Heap) (n0 : Nat) (v : Option Value) (h : Heap) (L : List Loc) : Prop := v = some (.int p1) ∧ Fr n0 L ∧ h = h0
set_option maxRecDepth 65536 in
set_option maxHeartbeats 40000000 in
theorem rmmn1 (l : Launch) (Z : State) (a0 : Array Value) (hw : ∀ d ∈ tables_1, d.before a0 Z = true) (ws : List Jvm.Cond) (p1 : Int32) (p2 : Int32) (h0 : Heap) (n0 : Nat) (Z0 : n0 ≤ h0.size) (h1 : ¬ (p2 < p1)) :
    MetFree l (⟨"java/lang/Math", "min", "(II)I"⟩ : MethodName) (head1 (Jvm.Cond.code (⟨"java/lang/Math", "min", "(II)I"⟩ : MethodName) jdk_29_method_69_code 2 (some .int) :: ws) R_mn1) (fun a U => a = #[(.int p1), (.int p2)] ∧ Z.Warmed39 U.vm ∧ U.heap = h0) (fun _ _ _ _ _ => True) (fun _ U o U' => ∃ v L, o = .returned v ∧ Qmn1 Z p1 p2 h0 n0 v U'.heap L ∧ FrameEnd U o U' L R_mn1.cells R_mn1.slots) := by
  refine MetFree.of_bodySF (Jvm.Free.JP.mathPlain rfl (by decide +kernel)) hisR ?_
  intro p e s m args below meth c s₁ Bd hml0 hP hK
  obtain ⟨rfl, hZ, hh⟩ := hP
  have hx := Bd.exec
  have hby := Bd.bytes
  have hml : c.maxLocals = 2 := hml0
  have hown : s.vm.findClass "java/lang/Math" = some m.cls := findClass_of_methodNamed Bd.named
  have hnm := (name_of_methodNamed Bd.named Bd.method).1
  have X0 : Stand p l e R_mn1 s m #[(.int p1), (.int p2)] below meth c s₁ [] 0 0 := Stand.of_body Bd
  have e0 : s₁.heap = h0 := by rw [← hh, Bd.state]; rfl
  have N0 := Fr.nil n0
  have pre0 : ∀ t, Steps p.tables e below (s₁.setTop (mkF m 0 #[uI p1, uI p2] [])) t → Steps p.tables e below (s₁.setTop (entryFrame m #[(.int p1), (.int p2)] 2)) t := fun t k => castTop (ef_mn1 m p1 p2) k
  obtain ⟨fs, hr, hrun, hended, hW, hsame⟩ := X0.leave (v := some (.int p1)) (fun h => by rw [Bd.returns] at h; cases h) Bd.notSynchronized
  refine ⟨_, _, pre0 _ ?_, hrun, hended, _, _, rfl, ?_, ⟨_, rfl⟩, hW, hsame.mono (by decide) (by decide)⟩
  · show Steps p.tables e below (s₁.setTop (mkF m 0 #[uI p1, uI p2] [])) _
    refine XS.iloadN X0.here hx rfl (hb hby d11_0) rfl ?_
    refine XS.iloadN X0.here hx rfl (hb hby d11_1) rfl ?_
    show Steps p.tables e below (s₁.setTop (mkF m 2 #[uI p1, uI p2] [(.int p2), (.int p1)])) _
    refine XS.icmpNo X0.here hx rfl (hb hby d11_2) rfl (flt h1).2.2.1 ?_
    refine XS.iloadN X0.here hx rfl (hb hby d11_5) rfl ?_
    refine XS.goto X0.here hx rfl (pc0 := 6) (pc' := 10) rfl (hb hby d11_6) (by decide) (by decide) ?_
    exact retI X0 hx Bd.returns (hb hby d11_10) hr
  · show Qmn1 Z p1 p2 h0 n0 _ s₁.heap _
    rw [e0]
    exact ⟨rfl, N0, rfl⟩
theorem d11_9 : decode jdk_29_method_69_code 9 = .ok (.iload_n 1, 1) := by decide +kernel
theorem ef_mn (m : MethodId) (x0 : Int32) (x1 : Int32) : entryFrame m #[(.int x0), (.int x1)] 2 = mkF m 0 #[.val (.int x0), .val (.int x1)] [] := by first | (simp [entryFrame, mkF, argsToLocals, Value.category]; done) | rfl
def fmn (p1 : Int32) (p2 : Int32) : Int32 := if p2 < p1 then p2 else p1
abbrev R_mn : Room := { frames := 0, cells := 0, slots := 0, locals := 0 }
def Qmn (Z : State) (p1 : Int32) (p2 : Int32) (h0 : Heap) (n0 : Nat) (v : Option Value) (h : Heap) (L : List Loc) : Prop := v = some (.int (fmn p1 p2)) ∧ Fr n0 L ∧ h = h0
set_option maxRecDepth 65536 in
set_option maxHeartbeats 40000000 in
theorem rmmn (l : Launch) (Z : State) (a0 : Array Value) (hw : ∀ d ∈ tables_1, d.before a0 Z = true) (ws : List Jvm.Cond) (p1 : Int32) (p2 : Int32) (h0 : Heap) (n0 : Nat) (Z0 : n0 ≤ h0.size) :
    MetFree l (⟨"java/lang/Math", "min", "(II)I"⟩ : MethodName) (head1 (Jvm.Cond.code (⟨"java/lang/Math", "min", "(II)I"⟩ : MethodName) jdk_29_method_69_code 2 (some .int) :: ws) R_mn) (fun a U => a = #[(.int p1), (.int p2)] ∧ Z.Warmed39 U.vm ∧ U.heap = h0) (fun _ _ _ _ _ => True) (fun _ U o U' => ∃ v L, o = .returned v ∧ Qmn Z p1 p2 h0 n0 v U'.heap L ∧ FrameEnd U o U' L R_mn.cells R_mn.slots) := by
  refine MetFree.of_bodySF (Jvm.Free.JP.mathPlain rfl (by decide +kernel)) hisR ?_
  intro p e s m args below meth c s₁ Bd hml0 hP hK
  obtain ⟨rfl, hZ, hh⟩ := hP
  have hx := Bd.exec
  have hby := Bd.bytes
  have hml : c.maxLocals = 2 := hml0
  have hown : s.vm.findClass "java/lang/Math" = some m.cls := findClass_of_methodNamed Bd.named
  have hnm := (name_of_methodNamed Bd.named Bd.method).1
  have X0 : Stand p l e R_mn s m #[(.int p1), (.int p2)] below meth c s₁ [] 0 0 := Stand.of_body Bd
  have e0 : s₁.heap = h0 := by rw [← hh, Bd.state]; rfl
  have N0 := Fr.nil n0
  have pre0 : ∀ t, Steps p.tables e below (s₁.setTop (mkF m 0 #[uI p1, uI p2] [])) t → Steps p.tables e below (s₁.setTop (entryFrame m #[(.int p1), (.int p2)] 2)) t := fun t k => castTop (ef_mn m p1 p2) k
  have pre1 : ∀ t, Steps p.tables e below (s₁.setTop (mkF m 2 #[uI p1, uI p2] [(.int p2), (.int p1)])) t → Steps p.tables e below (s₁.setTop (entryFrame m #[(.int p1), (.int p2)] 2)) t := fun t k => pre0 t (by
    show Steps p.tables e below (s₁.setTop (mkF m 0 #[uI p1, uI p2] [])) _
    refine XS.iloadN X0.here hx rfl (hb hby d11_0) rfl ?_
    refine XS.iloadN X0.here hx rfl (hb hby d11_1) rfl ?_
    exact k)
  by_cases hc2 : p2 < p1
  ·  -- pc 2: p2 < p1
    obtain ⟨fs, hr, hrun, hended, hW, hsame⟩ := X0.leave (v := some (.int p2)) (fun h => by rw [Bd.returns] at h; cases h) Bd.notSynchronized
    refine ⟨_, _, pre1 _ ?_, hrun, hended, _, _, rfl, ?_, ⟨_, rfl⟩, hW, hsame.mono (by decide) (by decide)⟩
    · show Steps p.tables e below (s₁.setTop (mkF m 2 #[uI p1, uI p2] [(.int p2), (.int p1)])) _
      refine XS.icmpYes X0.here hx rfl (pc0 := 2) (pc' := 9) rfl (hb hby d11_2) rfl (tlt hc2).2.2.1 (by decide) (by decide) ?_
      refine XS.iloadN X0.here hx rfl (hb hby d11_9) rfl ?_
      exact retI X0 hx Bd.returns (hb hby d11_10) hr
    · show Qmn Z p1 p2 h0 n0 _ s₁.heap _
      rw [e0]
      exact ⟨(by unfold fmn; rw [if_pos hc2]), N0, rfl⟩
  ·  -- pc 2: not p2 < p1
    obtain ⟨fs, hr, hrun, hended, hW, hsame⟩ := X0.leave (v := some (.int p1)) (fun h => by rw [Bd.returns] at h; cases h) Bd.notSynchronized
    refine ⟨_, _, pre1 _ ?_, hrun, hended, _, _, rfl, ?_, ⟨_, rfl⟩, hW, hsame.mono (by decide) (by decide)⟩
    · show Steps p.tables e below (s₁.setTop (mkF m 2 #[uI p1, uI p2] [(.int p2), (.int p1)])) _
      refine XS.icmpNo X0.here hx rfl (hb hby d11_2) rfl (flt hc2).2.2.1 ?_
      refine XS.iloadN X0.here hx rfl (hb hby d11_5) rfl ?_
      refine XS.goto X0.here hx rfl (pc0 := 6) (pc' := 10) rfl (hb hby d11_6) (by decide) (by decide) ?_
      exact retI X0 hx Bd.returns (hb hby d11_10) hr
    · show Qmn Z p1 p2 h0 n0 _ s₁.heap _
      rw [e0]
      exact ⟨(by unfold fmn; rw [if_neg hc2]), N0, rfl⟩
theorem d12_0 : decode jdk_29_method_66_code 0 = .ok (.lload_n 0, 1) := by decide +kernel
theorem d12_1 : decode jdk_29_method_66_code 1 = .ok (.lload_n 2, 1) := by decide +kernel
theorem d12_2 : decode jdk_29_method_66_code 2 = .ok (.lcmp, 1) := by decide +kernel
theorem d12_3 : decode jdk_29_method_66_code 3 = .ok (.ifCond .lt 7, 3) := by decide +kernel
theorem d12_10 : decode jdk_29_method_66_code 10 = .ok (.lload_n 2, 1) := by decide +kernel
theorem d12_11 : decode jdk_29_method_66_code 11 = .ok (.lreturn, 1) := by decide +kernel
theorem d12_6 : decode jdk_29_method_66_code 6 = .ok (.lload_n 0, 1) := by decide +kernel
theorem d12_7 : decode jdk_29_method_66_code 7 = .ok (.goto 4, 3) := by decide +kernel
theorem ef_mj (m : MethodId) (x0 : Int64) (x1 : Int64) : entryFrame m #[(.long x0), (.long x1)] 4 = mkF m 0 #[.val (.long x0), .second, .val (.long x1), .second] [] := by first | (simp [entryFrame, mkF, argsToLocals, Value.category]; done) | rfl
def fmj (q1 : Int64) (q2 : Int64) : Int64 := if q1 < q2 then q2 else q1
abbrev R_mj : Room := { frames := 0, cells := 0, slots := 0, locals := 0 }
def Qmj (Z : State) (q1 : Int64) (q2 : Int64) (h0 : Heap) (n0 : Nat) (v : Option Value) (h : Heap) (L : List Loc) : Prop := v = some (.long (fmj q1 q2)) ∧ Fr n0 L ∧ h = h0
set_option maxRecDepth 65536 in
set_option maxHeartbeats 40000000 in
theorem rmmj (l : Launch) (Z : State) (a0 : Array Value) (hw : ∀ d ∈ tables_1, d.before a0 Z = true) (ws : List Jvm.Cond) (q1 : Int64) (q2 : Int64) (h0 : Heap) (n0 : Nat) (Z0 : n0 ≤ h0.size) :
    MetFree l (⟨"java/lang/Math", "max", "(JJ)J"⟩ : MethodName) (head1 (Jvm.Cond.code (⟨"java/lang/Math", "max", "(JJ)J"⟩ : MethodName) jdk_29_method_66_code 4 (some .long) :: ws) R_mj) (fun a U => a = #[(.long q1), (.long q2)] ∧ Z.Warmed39 U.vm ∧ U.heap = h0) (fun _ _ _ _ _ => True) (fun _ U o U' => ∃ v L, o = .returned v ∧ Qmj Z q1 q2 h0 n0 v U'.heap L ∧ FrameEnd U o U' L R_mj.cells R_mj.slots) := by
  refine MetFree.of_bodySF (Jvm.Free.JP.mathPlain rfl (by decide +kernel)) hisR ?_
  intro p e s m args below meth c s₁ Bd hml0 hP hK
  obtain ⟨rfl, hZ, hh⟩ := hP
  have hx := Bd.exec
  have hby := Bd.bytes
  have hml : c.maxLocals = 4 := hml0
  have hown : s.vm.findClass "java/lang/Math" = some m.cls := findClass_of_methodNamed Bd.named
  have hnm := (name_of_methodNamed Bd.named Bd.method).1
  have X0 : Stand p l e R_mj s m #[(.long q1), (.long q2)] below meth c s₁ [] 0 0 := Stand.of_body Bd
  have e0 : s₁.heap = h0 := by rw [← hh, Bd.state]; rfl
  have N0 := Fr.nil n0
  have pre0 : ∀ t, Steps p.tables e below (s₁.setTop (mkF m 0 #[uL q1, uS, uL q2, uS] [])) t → Steps p.tables e below (s₁.setTop (entryFrame m #[(.long q1), (.long q2)] 4)) t := fun t k => castTop (ef_mj m q1 q2) k
  have pre1 : ∀ t, Steps p.tables e below (s₁.setTop (mkF m 3 #[uL q1, uS, uL q2, uS] [(.int (lcmpW q1 q2))])) t → Steps p.tables e below (s₁.setTop (entryFrame m #[(.long q1), (.long q2)] 4)) t := fun t k => pre0 t (by
    show Steps p.tables e below (s₁.setTop (mkF m 0 #[uL q1, uS, uL q2, uS] [])) _
    refine XS.lloadN X0.here hx rfl (hb hby d12_0) rfl ?_
    refine XS.lloadN X0.here hx rfl (hb hby d12_1) rfl ?_
    refine XS.lcmp X0.here hx rfl (hb hby d12_2) rfl ?_
    exact k)
  by_cases hc2 : q1 < q2
  ·  -- pc 3: q1 < q2
    obtain ⟨fs, hr, hrun, hended, hW, hsame⟩ := X0.leave (v := some (.long q2)) (fun h => by rw [Bd.returns] at h; cases h) Bd.notSynchronized
    refine ⟨_, _, pre1 _ ?_, hrun, hended, _, _, rfl, ?_, ⟨_, rfl⟩, hW, hsame.mono (by decide) (by decide)⟩
    · show Steps p.tables e below (s₁.setTop (mkF m 3 #[uL q1, uS, uL q2, uS] [(.int (lcmpW q1 q2))])) _
      refine XS.ifYes X0.here hx rfl (pc0 := 3) (pc' := 10) rfl (hb hby d12_3) rfl ((if0 _ _).trans (tlt ((lw_lt _ _).mpr hc2)).1) (by decide) (by decide) ?_
      refine XS.lloadN X0.here hx rfl (hb hby d12_10) rfl ?_
      exact retOut X0 hx (t := .long) Bd.returns rfl (Or.inr (Or.inl ⟨rfl, rfl, _, rfl⟩)) (hb hby d12_11) hr
    · show Qmj Z q1 q2 h0 n0 _ s₁.heap _
      rw [e0]
      exact ⟨(by unfold fmj; rw [if_pos hc2]), N0, rfl⟩
  ·  -- pc 3: not q1 < q2
    obtain ⟨fs, hr, hrun, hended, hW, hsame⟩ := X0.leave (v := some (.long q1)) (fun h => by rw [Bd.returns] at h; cases h) Bd.notSynchronized
    refine ⟨_, _, pre1 _ ?_, hrun, hended, _, _, rfl, ?_, ⟨_, rfl⟩, hW, hsame.mono (by decide) (by decide)⟩
    · show Steps p.tables e below (s₁.setTop (mkF m 3 #[uL q1, uS, uL q2, uS] [(.int (lcmpW q1 q2))])) _
      refine XS.ifNo X0.here hx rfl (hb hby d12_3) rfl ((if0 _ _).trans (flt (mt (lw_lt _ _).mp hc2)).1) ?_
      refine XS.lloadN X0.here hx rfl (hb hby d12_6) rfl ?_
      refine XS.goto X0.here hx rfl (pc0 := 7) (pc' := 11) rfl (hb hby d12_7) (by decide) (by decide) ?_
      exact retOut X0 hx (t := .long) Bd.returns rfl (Or.inr (Or.inl ⟨rfl, rfl, _, rfl⟩)) (hb hby d12_11) hr
    · show Qmj Z q1 q2 h0 n0 _ s₁.heap _
      rw [e0]
      exact ⟨(by unfold fmj; rw [if_neg hc2]), N0, rfl⟩
theorem pn_22 : plainName "java/util/Arrays" = true := by first | (simp [plainName, overriddenIn]; done) | decide +kernel
theorem d6_0 : decode jdk_65_method_30_code 0 = .ok (.iload_n 1, 1) := by decide +kernel
theorem d6_1 : decode jdk_65_method_30_code 1 = .ok (.iload_n 2, 1) := by decide +kernel
theorem d6_2 : decode jdk_65_method_30_code 2 = .ok (.if_icmp .le 44, 3) := by decide +kernel
theorem d6_46 : decode jdk_65_method_30_code 46 = .ok (.iload_n 1, 1) := by decide +kernel
theorem d6_47 : decode jdk_65_method_30_code 47 = .ok (.ifCond .ge 12, 3) := by decide +kernel
theorem d6_59 : decode jdk_65_method_30_code 59 = .ok (.iload_n 2, 1) := by decide +kernel
theorem d6_60 : decode jdk_65_method_30_code 60 = .ok (.iload_n 0, 1) := by decide +kernel
theorem d6_61 : decode jdk_65_method_30_code 61 = .ok (.if_icmp .le 12, 3) := by decide +kernel
theorem d6_73 : decode jdk_65_method_30_code 73 = .ok (.return_, 1) := by decide +kernel
theorem ef_rc (m : MethodId) (x0 : Int32) (x1 : Int32) (x2 : Int32) : entryFrame m #[(.int x0), (.int x1), (.int x2)] 3 = mkF m 0 #[.val (.int x0), .val (.int x1), .val (.int x2)] [] := by first | (simp [entryFrame, mkF, argsToLocals, Value.category]; done) | rfl
abbrev R_rc : Room := { frames := 0, cells := 0, slots := 0, locals := 0 }
def Qrc (Z : State) (p1 : Int32) (p2 : Int32) (p3 : Int32) (h0 : Heap) (n0 : Nat) (v : Option Value) (h : Heap) (L : List Loc) : Prop := v = none ∧ Fr n0 L ∧ h = h0
set_option maxRecDepth 65536 in
set_option maxHeartbeats 40000000 in
theorem rmrc (l : Launch) (Z : State) (a0 : Array Value) (hw : ∀ d ∈ tables_1, d.before a0 Z = true) (ws : List Jvm.Cond) (p1 : Int32) (p2 : Int32) (p3 : Int32) (h0 : Heap) (n0 : Nat) (Z0 : n0 ≤ h0.size) (h1 : ¬ (p3 < p2)) (h2 : ¬ (p2 < (0 : Int32))) (h3 : ¬ (p1 < p3)) :
    MetFree l (⟨"java/util/Arrays", "rangeCheck", "(III)V"⟩ : MethodName) (head1 (Jvm.Cond.code (⟨"java/util/Arrays", "rangeCheck", "(III)V"⟩ : MethodName) jdk_65_method_30_code 3 none :: ws) R_rc) (fun a U => a = #[(.int p1), (.int p2), (.int p3)] ∧ Z.Warmed39 U.vm ∧ U.heap = h0) (fun _ _ _ _ _ => True) (fun _ U o U' => ∃ v L, o = .returned v ∧ Qrc Z p1 p2 p3 h0 n0 v U'.heap L ∧ FrameEnd U o U' L R_rc.cells R_rc.slots) := by
  refine MetFree.of_bodySF (plainFor_of_name pn_22) hisR ?_
  intro p e s m args below meth c s₁ Bd hml0 hP hK
  obtain ⟨rfl, hZ, hh⟩ := hP
  have hx := Bd.exec
  have hby := Bd.bytes
  have hml : c.maxLocals = 3 := hml0
  have hown : s.vm.findClass "java/util/Arrays" = some m.cls := findClass_of_methodNamed Bd.named
  have hnm := (name_of_methodNamed Bd.named Bd.method).1
  have X0 : Stand p l e R_rc s m #[(.int p1), (.int p2), (.int p3)] below meth c s₁ [] 0 0 := Stand.of_body Bd
  have e0 : s₁.heap = h0 := by rw [← hh, Bd.state]; rfl
  have N0 := Fr.nil n0
  have pre0 : ∀ t, Steps p.tables e below (s₁.setTop (mkF m 0 #[uI p1, uI p2, uI p3] [])) t → Steps p.tables e below (s₁.setTop (entryFrame m #[(.int p1), (.int p2), (.int p3)] 3)) t := fun t k => castTop (ef_rc m p1 p2 p3) k
  obtain ⟨fs, hr, hrun, hended, hW, hsame⟩ := X0.leave (v := none) (fun _ => rfl) Bd.notSynchronized
  refine ⟨_, _, pre0 _ ?_, hrun, hended, _, _, rfl, ?_, ⟨_, rfl⟩, hW, hsame.mono (by decide) (by decide)⟩
  · show Steps p.tables e below (s₁.setTop (mkF m 0 #[uI p1, uI p2, uI p3] [])) _
    refine XS.iloadN X0.here hx rfl (hb hby d6_0) rfl ?_
    refine XS.iloadN X0.here hx rfl (hb hby d6_1) rfl ?_
    show Steps p.tables e below (s₁.setTop (mkF m 2 #[uI p1, uI p2, uI p3] [(.int p3), (.int p2)])) _
    refine XS.icmpYes X0.here hx rfl (pc0 := 2) (pc' := 46) rfl (hb hby d6_2) rfl (flt h1).2.2.2 (by decide) (by decide) ?_
    refine XS.iloadN X0.here hx rfl (hb hby d6_46) rfl ?_
    show Steps p.tables e below (s₁.setTop (mkF m 47 #[uI p1, uI p2, uI p3] [(.int p2)])) _
    refine XS.ifYes X0.here hx rfl (pc0 := 47) (pc' := 59) rfl (hb hby d6_47) rfl ((if0 _ _).trans (flt h2).2.1) (by decide) (by decide) ?_
    refine XS.iloadN X0.here hx rfl (hb hby d6_59) rfl ?_
    refine XS.iloadN X0.here hx rfl (hb hby d6_60) rfl ?_
    show Steps p.tables e below (s₁.setTop (mkF m 61 #[uI p1, uI p2, uI p3] [(.int p1), (.int p3)])) _
    refine XS.icmpYes X0.here hx rfl (pc0 := 61) (pc' := 73) rfl (hb hby d6_61) rfl (flt h3).2.2.2 (by decide) (by decide) ?_
    exact X0.returnOut hx Bd.returns (hb hby d6_73) hr
  · show Qrc Z p1 p2 p3 h0 n0 _ s₁.heap _
    rw [e0]
    exact ⟨rfl, N0, rfl⟩
theorem d10_0 : decode jdk_65_method_124_code 0 = .ok (.iload_n 1, 1) := by decide +kernel
theorem d10_1 : decode jdk_65_method_124_code 1 = .ok (.aload_n 0, 1) := by decide +kernel
theorem d10_2 : decode jdk_65_method_124_code 2 = .ok (.arraylength, 1) := by decide +kernel
theorem d10_3 : decode jdk_65_method_124_code 3 = .ok (.if_icmp .ne 11, 3) := by decide +kernel
theorem d10_14 : decode jdk_65_method_124_code 14 = .ok (.iload_n 1, 1) := by decide +kernel
theorem d10_15 : decode jdk_65_method_124_code 15 = .ok (.newarray .long, 2) := by decide +kernel
theorem d10_17 : decode jdk_65_method_124_code 17 = .ok (.astore_n 2, 1) := by decide +kernel
theorem d10_18 : decode jdk_65_method_124_code 18 = .ok (.aload_n 0, 1) := by decide +kernel
theorem d10_19 : decode jdk_65_method_124_code 19 = .ok (.iconst 0, 1) := by decide +kernel
theorem d10_20 : decode jdk_65_method_124_code 20 = .ok (.aload_n 2, 1) := by decide +kernel
theorem d10_21 : decode jdk_65_method_124_code 21 = .ok (.iconst 0, 1) := by decide +kernel
theorem d10_22 : decode jdk_65_method_124_code 22 = .ok (.aload_n 0, 1) := by decide +kernel
theorem d10_23 : decode jdk_65_method_124_code 23 = .ok (.arraylength, 1) := by decide +kernel
theorem d10_24 : decode jdk_65_method_124_code 24 = .ok (.iload_n 1, 1) := by decide +kernel
theorem d10_25 : decode jdk_65_method_124_code 25 = .ok (.invokestatic 304, 3) := by decide +kernel
theorem pd_47 : parseMethodDescriptor "(II)I" = some ⟨[.int, .int], some .int⟩ := by decide +kernel
theorem d10_28 : decode jdk_65_method_124_code 28 = .ok (.invokestatic 150, 3) := by decide +kernel
theorem d10_31 : decode jdk_65_method_124_code 31 = .ok (.aload_n 2, 1) := by decide +kernel
theorem d10_32 : decode jdk_65_method_124_code 32 = .ok (.areturn, 1) := by decide +kernel
theorem ef_cp0 (m : MethodId) (x0 : Addr) (x1 : Int32) : entryFrame m #[(.ref x0), (.int x1)] 3 = mkF m 0 #[.val (.ref x0), .val (.int x1), .unset] [] := by first | (simp [entryFrame, mkF, argsToLocals, Value.category]; done) | rfl
abbrev R_cp0 : Room := { frames := 1, cells := 1, slots := 8, locals := 56 }
def Qcp0 (Z : State) (a1 : Addr) (k1 : ClassId) (h0 : Heap) (n0 : Nat) (v : Option Value) (h : Heap) (L : List Loc) : Prop := ∃ (n1 : Addr) (kn1 : ClassId), v = some (.ref n1) ∧ Fr n0 L ∧ Keep h0 h [] ∧ n0 ≤ n1 ∧ h0.size ≤ n1 ∧ Arv Z h n1 kn1 .long (8 : Int32) [(.long 0), (.long 0), (.long 0), (.long 0), (.long 0), (.long 0), (.long 0), (.long 0)] (.long 0) ∧ Exa Z h n1 "[J"
set_option maxRecDepth 65536 in
set_option maxHeartbeats 40000000 in
theorem rmcp0 (l : Launch) (Z : State) (a0 : Array Value) (hw : ∀ d ∈ tables_1, d.before a0 Z = true) (ws : List Jvm.Cond) (a1 : Addr) (k1 : ClassId) (h0 : Heap) (n0 : Nat) (Z0 : n0 ≤ h0.size) (V_a1 : Arv Z h0 a1 k1 .long (0 : Int32) [] (.long 0)) :
    MetFree l (⟨"java/util/Arrays", "copyOf", "([JI)[J"⟩ : MethodName) (head1 (Jvm.Cond.code (⟨"java/util/Arrays", "copyOf", "([JI)[J"⟩ : MethodName) jdk_65_method_124_code 3 (some (.array .long)) :: ws) R_cp0) (fun a U => a = #[(.ref a1), (.int 8)] ∧ Z.Warmed39 U.vm ∧ U.heap = h0) (fun _ _ _ _ _ => True) (fun _ U o U' => ∃ v L, o = .returned v ∧ Qcp0 Z a1 k1 h0 n0 v U'.heap L ∧ FrameEnd U o U' L R_cp0.cells R_cp0.slots) := by
  refine MetFree.of_bodySF (plainFor_of_name pn_22) hisR ?_
  intro p e s m args below meth c s₁ Bd hml0 hP hK
  obtain ⟨rfl, hZ, hh⟩ := hP
  have hx := Bd.exec
  have hby := Bd.bytes
  have hml : c.maxLocals = 3 := hml0
  have hown : s.vm.findClass "java/util/Arrays" = some m.cls := findClass_of_methodNamed Bd.named
  have hnm := (name_of_methodNamed Bd.named Bd.method).1
  have X0 : Stand p l e R_cp0 s m #[(.ref a1), (.int 8)] below meth c s₁ [] 0 0 := Stand.of_body Bd
  have e0 : s₁.heap = h0 := by rw [← hh, Bd.state]; rfl
  have N0 := Fr.nil n0
  have pre0 : ∀ t, Steps p.tables e below (s₁.setTop (mkF m 0 #[uR a1, uI 8, uU] [])) t → Steps p.tables e below (s₁.setTop (entryFrame m #[(.ref a1), (.int 8)] 3)) t := fun t k => castTop (ef_cp0 m a1 (8 : Int32)) k
  obtain ⟨car1, Aar1, qar1, Sar1, Nar1, Har1, Gar1⟩ := id V_a1
  obtain ⟨T2, h2, ka2, X2, e2, E2, A2, B2, st2⟩ := newPE X0 hx hZ (own_w hw (i := 56) rfl) e0 (g := (mkF m 15 #[uR a1, uI 8, uU] [(.int 8)])) rfl (hb hby d10_15) rfl (by decide) (cap := 8) (by decide) (by decide) (by decide) (by decide) (ad := "[J") (by decide)
  obtain ⟨bx2, g2⟩ : ∃ z, z = h0.size := ⟨_, rfl⟩
  rw [← g2] at A2 B2 st2
  have g_bx2 : n0 ≤ bx2 := Nat.le_trans Z0 (Nat.le_of_eq g2.symm)
  have sz_bx2 : h0.size ≤ bx2 := Nat.le_trans (Keep.refl h0 []).1 (Nat.le_of_eq g2.symm)
  have f4 := V_a1.ext E2
  have zs5 : n0 ≤ h2.size := Nat.le_trans Z0 E2.1
  have K6 := (Keep.refl h0 []).ext E2
  have V_bx2 : Arv Z h2 bx2 ka2 .long (8 : Int32) [(.long 0), (.long 0), (.long 0), (.long 0), (.long 0), (.long 0), (.long 0), (.long 0)] (.long 0) := (Arv.new A2 (by decide)).pad (pad_rep [] (.long 0) 8)
  obtain ⟨car7, Aar7, qar7, Sar7, Nar7, Har7, Gar7⟩ := id f4
  -- pc 25: Math.min by rmmn1
  obtain ⟨_, _, ⟨T8, L8, ck8, cn8⟩, -, X8, ⟨Lc8, hQ8, l8, y8, z8⟩, st8⟩ := Jvm.LawKit.callS X2 hx (y := (⟨"java/lang/Math", "min", "(II)I"⟩ : MethodName)) hown (mvT hZ (own_w hw (i := 57) rfl)) (mvT hZ (own_w hw (i := 58) rfl)) (mvT hZ (own_w hw (i := 47) rfl)) (mvT hZ (own_w hw (i := 59) rfl)) (by decide) (backOf (W := 4) (rmmn1 l Z a0 hw [] (0 : Int32) (8 : Int32) h2 n0 zs5 (by decide)) hZ (own_w hw (i := 59) rfl) (own_w hw (i := 47) rfl) (by decide) (by decide)) (g := (mkF m 25 #[uR a1, uI 8, uR bx2] [(.int 8), (.int 0), (.int 0), (.ref bx2), (.int 0), (.ref a1)])) rfl (by rw [hml]; rfl) (argsL := [(.int 0), (.int 8)]) (rest := [(.int 0), (.ref bx2), (.int 0), (.ref a1)]) (lenOf pd_47 rfl) rfl (by show 2 * 0 + _ ≤ _; exact Nat.le_of_eq rfl) (hb hby d10_25) (fun _ _ => ⟨rfl, e2, (by decide : 1 + 0 ≤ _), (by decide : 8 + 0 ≤ _)⟩)
  dsimp only [Pt.U, Pt.locs, Pt.cells, Pt.slots] at X8 l8 y8 z8 st8 hQ8
  subst y8 z8
  obtain ⟨rfl, N8q, e8⟩ := hQ8
  have N9 : Fr n0 L8 := by rw [l8]; exact Fr.app N0 N8q
  obtain ⟨T10, h10, L10, X10, e10, N10, Kc10, V10, st10⟩ := cpA X8 hx hZ hown (own_w hw (i := 60) rfl) (own_w hw (i := 44) rfl) (own_w hw (i := 42) rfl) (own_w hw (i := 43) rfl) e8 f4 V_bx2 (sp := (0 : Int32)) (dp := (0 : Int32)) (nn := (0 : Int32)) (us := []) (Or.inl ⟨rfl, rfl⟩) (by decide) (by decide) (by decide) (by decide) (by decide) rfl (Nat.le_of_ble_eq_true rfl) N9 g_bx2 (g := (mkF m 28 #[uR a1, uI 8, uR bx2] [(.int 0), (.int 0), (.ref bx2), (.int 0), (.ref a1)])) rfl (by rw [hml]; rfl) rfl (hb hby d10_28) (by decide) (W := 0) (by show 2 * 0 + _ ≤ _; exact Nat.le_of_eq rfl) (by decide)
  have Kd10 : Keep h2 h10 [bx2] := Kc10
  have f12 := B2.keep Kd10
  have K14 := K6.trans Kd10 (allS (Or.inr sz_bx2) all0)
  have Vx10 : Arv Z h10 bx2 ka2 .long (8 : Int32) [(.long 0), (.long 0), (.long 0), (.long 0), (.long 0), (.long 0), (.long 0), (.long 0)] (.long 0) := V10
  obtain ⟨fs, hr, hrun, hended, hW, hsame⟩ := X10.leave (v := some (.ref bx2)) (fun h => by rw [Bd.returns] at h; cases h) Bd.notSynchronized
  refine ⟨_, _, pre0 _ ?_, hrun, hended, _, _, rfl, ?_, ⟨_, rfl⟩, hW, hsame.mono (by decide) (by decide)⟩
  · show Steps p.tables e below (s₁.setTop (mkF m 0 #[uR a1, uI 8, uU] [])) _
    refine XS.iloadN X0.here hx rfl (hb hby d10_0) rfl ?_
    refine XS.aloadN X0.here hx rfl (hb hby d10_1) rfl rfl ?_
    refine X0.arraylength hx (by rw [e0]; exact Aar1.1) (State.isArrayOf_alike hZ.alike Aar1.2.1) (g := (mkF m 2 #[uR a1, uI 8, uU] [(.ref a1), (.int 8)])) rfl rfl (hb hby d10_2) _ ?_
    rw [len_of Sar1 Nar1]
    show Steps p.tables e below (s₁.setTop (mkF m 3 #[uR a1, uI 8, uU] [(.int 0), (.int 8)])) _
    refine XS.icmpYes X0.here hx rfl (pc0 := 3) (pc' := 14) rfl (hb hby d10_3) rfl (feq (by decide : ¬ ((8 : Int32) = (0 : Int32)))).2 (by decide) (by decide) ?_
    refine XS.iloadN X0.here hx rfl (hb hby d10_14) rfl ?_
    refine st2 _ ?_
    refine XS.astoreN X2.here hx rfl (hb hby d10_17) rfl rfl (l' := #[uR a1, uI 8, uR bx2]) rfl ?_
    refine XS.aloadN X2.here hx rfl (hb hby d10_18) rfl rfl ?_
    refine XS.iconst X2.here hx rfl (hb hby d10_19) ?_
    refine XS.aloadN X2.here hx rfl (hb hby d10_20) rfl rfl ?_
    refine XS.iconst X2.here hx rfl (hb hby d10_21) ?_
    refine XS.aloadN X2.here hx rfl (hb hby d10_22) rfl rfl ?_
    refine X2.arraylength hx (by rw [e2]; exact Aar7.1) (State.isArrayOf_alike hZ.alike Aar7.2.1) (g := (mkF m 23 #[uR a1, uI 8, uR bx2] [(.ref a1), (.int 0), (.ref bx2), (.int 0), (.ref a1)])) rfl rfl (hb hby d10_23) _ ?_
    rw [len_of Sar7 Nar7]
    refine XS.iloadN X2.here hx rfl (hb hby d10_24) rfl ?_
    refine st8 _ ?_
    refine st10 _ ?_
    show Steps p.tables e below (T10.setTop (mkF m 31 #[uR a1, uI 8, uR bx2] [])) _
    refine XS.aloadN X10.here hx rfl (hb hby d10_31) rfl rfl ?_
    exact retOut X10 hx (t := (.array .long)) Bd.returns rfl (Or.inr (Or.inr (Or.inr (Or.inr ⟨rfl, rfl, rfl⟩)))) (hb hby d10_32) hr
  · show Qcp0 Z a1 k1 h0 n0 _ T10.heap _
    rw [e10]
    exact ⟨bx2, ka2, rfl, N10, K14, g_bx2, sz_bx2, Vx10, f12⟩
theorem d10_6 : decode jdk_65_method_124_code 6 = .ok (.aload_n 0, 1) := by decide +kernel
theorem d10_7 : decode jdk_65_method_124_code 7 = .ok (.invokevirtual 319, 3) := by decide +kernel
theorem d10_10 : decode jdk_65_method_124_code 10 = .ok (.checkcast 320, 3) := by decide +kernel
theorem d10_13 : decode jdk_65_method_124_code 13 = .ok (.areturn, 1) := by decide +kernel
theorem ef_cp8 (m : MethodId) (x0 : Addr) (x1 : Int32) : entryFrame m #[(.ref x0), (.int x1)] 3 = mkF m 0 #[.val (.ref x0), .val (.int x1), .unset] [] := by first | (simp [entryFrame, mkF, argsToLocals, Value.category]; done) | rfl
abbrev R_cp8 : Room := { frames := 1, cells := 1, slots := 8, locals := 14 }
def Qcp8 (Z : State) (a1 : Addr) (k1 : ClassId) (x0 : Int64) (x1 : Int64) (x2 : Int64) (x3 : Int64) (x4 : Int64) (x5 : Int64) (x6 : Int64) (x7 : Int64) (h0 : Heap) (n0 : Nat) (v : Option Value) (h : Heap) (L : List Loc) : Prop := ∃ (n1 : Addr) (kn1 : ClassId), v = some (.ref n1) ∧ Fr n0 L ∧ Keep h0 h [] ∧ n0 ≤ n1 ∧ h0.size ≤ n1 ∧ Arv Z h n1 kn1 .long (8 : Int32) [(.long x0), (.long x1), (.long x2), (.long x3), (.long x4), (.long x5), (.long x6), (.long x7)] (.long 0) ∧ Exa Z h n1 "[J"
set_option maxRecDepth 65536 in
set_option maxHeartbeats 40000000 in
theorem rmcp8 (l : Launch) (Z : State) (a0 : Array Value) (hw : ∀ d ∈ tables_1, d.before a0 Z = true) (ws : List Jvm.Cond) (a1 : Addr) (k1 : ClassId) (x0 : Int64) (x1 : Int64) (x2 : Int64) (x3 : Int64) (x4 : Int64) (x5 : Int64) (x6 : Int64) (x7 : Int64) (h0 : Heap) (n0 : Nat) (Z0 : n0 ≤ h0.size) (V_a1 : Arv Z h0 a1 k1 .long (8 : Int32) [(.long x0), (.long x1), (.long x2), (.long x3), (.long x4), (.long x5), (.long x6), (.long x7)] (.long 0)) (E_a1 : Exa Z h0 a1 "[J") :
    MetFree l (⟨"java/util/Arrays", "copyOf", "([JI)[J"⟩ : MethodName) (head1 (Jvm.Cond.code (⟨"java/util/Arrays", "copyOf", "([JI)[J"⟩ : MethodName) jdk_65_method_124_code 3 (some (.array .long)) :: ws) R_cp8) (fun a U => a = #[(.ref a1), (.int 8)] ∧ Z.Warmed39 U.vm ∧ U.heap = h0) (fun _ _ _ _ _ => True) (fun _ U o U' => ∃ v L, o = .returned v ∧ Qcp8 Z a1 k1 x0 x1 x2 x3 x4 x5 x6 x7 h0 n0 v U'.heap L ∧ FrameEnd U o U' L R_cp8.cells R_cp8.slots) := by
  refine MetFree.of_bodySF (plainFor_of_name pn_22) hisR ?_
  intro p e s m args below meth c s₁ Bd hml0 hP hK
  obtain ⟨rfl, hZ, hh⟩ := hP
  have hx := Bd.exec
  have hby := Bd.bytes
  have hml : c.maxLocals = 3 := hml0
  have hown : s.vm.findClass "java/util/Arrays" = some m.cls := findClass_of_methodNamed Bd.named
  have hnm := (name_of_methodNamed Bd.named Bd.method).1
  have X0 : Stand p l e R_cp8 s m #[(.ref a1), (.int 8)] below meth c s₁ [] 0 0 := Stand.of_body Bd
  have e0 : s₁.heap = h0 := by rw [← hh, Bd.state]; rfl
  have N0 := Fr.nil n0
  have pre0 : ∀ t, Steps p.tables e below (s₁.setTop (mkF m 0 #[uR a1, uI 8, uU] [])) t → Steps p.tables e below (s₁.setTop (entryFrame m #[(.ref a1), (.int 8)] 3)) t := fun t k => castTop (ef_cp8 m a1 (8 : Int32)) k
  obtain ⟨car1, Aar1, qar1, Sar1, Nar1, Har1, Gar1⟩ := id V_a1
  obtain ⟨T2, h2, X2, e2, E2, A2, B2, st2⟩ := cloneH X0 hx hZ hown (own_w hw (i := 80) rfl) (own_w hw (i := 81) rfl) (own_w hw (i := 85) rfl) (own_w hw (i := 83) rfl) (own_w hw (i := 84) rfl) (own_w hw (i := 86) rfl) e0 (Arv.arh V_a1) E_a1 (g := (mkF m 7 #[uR a1, uI 8, uU] [(.ref a1)])) rfl (by rw [hml]; rfl) rfl (hb hby d10_7) (by decide) (W := 0) (cap := 8) (by show 2 * 0 + _ ≤ _; exact Nat.le_of_eq rfl) (by decide) (by decide) (by decide) (by decide)
  obtain ⟨bx2, g2⟩ : ∃ z, z = h0.size := ⟨_, rfl⟩
  rw [← g2] at A2 B2 st2
  have g_bx2 : n0 ≤ bx2 := Nat.le_trans Z0 (Nat.le_of_eq g2.symm)
  have sz_bx2 : h0.size ≤ bx2 := Nat.le_trans (Keep.refl h0 []).1 (Nat.le_of_eq g2.symm)
  have K7 := (Keep.refl h0 []).ext E2
  have V_bx2 : Arv Z h2 bx2 k1 .long (8 : Int32) [(.long x0), (.long x1), (.long x2), (.long x3), (.long x4), (.long x5), (.long x6), (.long x7)] (.long 0) := A2
  obtain ⟨T8, X8, e8, st8⟩ := castY X2 hx hZ hown (own_w hw (i := 87) rfl) e2 (Ins.self B2) (g := (mkF m 10 #[uR a1, uI 8, uU] [(.ref bx2)])) rfl rfl (hb hby d10_10)
  obtain ⟨fs, hr, hrun, hended, hW, hsame⟩ := X8.leave (v := some (.ref bx2)) (fun h => by rw [Bd.returns] at h; cases h) Bd.notSynchronized
  refine ⟨_, _, pre0 _ ?_, hrun, hended, _, _, rfl, ?_, ⟨_, rfl⟩, hW, hsame.mono (by decide) (by decide)⟩
  · show Steps p.tables e below (s₁.setTop (mkF m 0 #[uR a1, uI 8, uU] [])) _
    refine XS.iloadN X0.here hx rfl (hb hby d10_0) rfl ?_
    refine XS.aloadN X0.here hx rfl (hb hby d10_1) rfl rfl ?_
    refine X0.arraylength hx (by rw [e0]; exact Aar1.1) (State.isArrayOf_alike hZ.alike Aar1.2.1) (g := (mkF m 2 #[uR a1, uI 8, uU] [(.ref a1), (.int 8)])) rfl rfl (hb hby d10_2) _ ?_
    rw [len_of Sar1 Nar1]
    show Steps p.tables e below (s₁.setTop (mkF m 3 #[uR a1, uI 8, uU] [(.int 8), (.int 8)])) _
    refine XS.icmpNo X0.here hx rfl (hb hby d10_3) rfl (teq (by decide : (8 : Int32) = (8 : Int32))).2 ?_
    refine XS.aloadN X0.here hx rfl (hb hby d10_6) rfl rfl ?_
    refine st2 _ ?_
    refine st8 _ ?_
    exact retOut X8 hx (t := (.array .long)) Bd.returns rfl (Or.inr (Or.inr (Or.inr (Or.inr ⟨rfl, rfl, rfl⟩)))) (hb hby d10_13) hr
  · show Qcp8 Z a1 k1 x0 x1 x2 x3 x4 x5 x6 x7 h0 n0 _ T8.heap _
    rw [e8]
    exact ⟨bx2, k1, rfl, N0, K7, g_bx2, sz_bx2, V_bx2, B2⟩
theorem pn_55 : plainName KC = true := by first | (simp [plainName, overriddenIn]; done) | decide +kernel
theorem d9_0 : decode prog_126_method_12_code 0 = .ok (.aload_n 0, 1) := by decide +kernel
theorem d9_1 : decode prog_126_method_12_code 1 = .ok (.aload_n 0, 1) := by decide +kernel
theorem d9_2 : decode prog_126_method_12_code 2 = .ok (.getfield 13, 3) := by decide +kernel
theorem d9_5 : decode prog_126_method_12_code 5 = .ok (.iload_n 1, 1) := by decide +kernel
theorem d9_6 : decode prog_126_method_12_code 6 = .ok (.invokestatic 57, 3) := by decide +kernel
theorem pd_61 : parseMethodDescriptor "([JI)[J" = some ⟨[(.array .long), .int], some (.array .long)⟩ := by decide +kernel
theorem d9_9 : decode prog_126_method_12_code 9 = .ok (.putfield 13, 3) := by decide +kernel
theorem sn_63 {Z : State} {a0 : Array Value} (hw : ∀ d ∈ tables_1, d.before a0 Z = true) : Jvm.RoadKit.slotOf Z KC "count" "I" ≠ Jvm.RoadKit.slotOf Z KC KB "[J" := slot_ne (Or.inl (own_w hw (i := 28) rfl)) (Or.inl (own_w hw (i := 12) rfl)) (by decide) (t := .int) (t' := (.array .long)) (by decide) (by decide)
theorem sn_64 {Z : State} {a0 : Array Value} (hw : ∀ d ∈ tables_1, d.before a0 Z = true) : Jvm.RoadKit.slotOf Z KC "first" "J" ≠ Jvm.RoadKit.slotOf Z KC KB "[J" := slot_ne (Or.inl (own_w hw (i := 40) rfl)) (Or.inl (own_w hw (i := 12) rfl)) (by decide) (t := .long) (t' := (.array .long)) (by decide) (by decide)
theorem sn_65 {Z : State} {a0 : Array Value} (hw : ∀ d ∈ tables_1, d.before a0 Z = true) : Jvm.RoadKit.slotOf Z KC KP "[J" ≠ Jvm.RoadKit.slotOf Z KC KB "[J" := slot_ne (Or.inl (own_w hw (i := 14) rfl)) (Or.inl (own_w hw (i := 12) rfl)) (by decide) (t := (.array .long)) (t' := (.array .long)) (by decide) (by decide)
theorem sn_66 {Z : State} {a0 : Array Value} (hw : ∀ d ∈ tables_1, d.before a0 Z = true) : Jvm.RoadKit.slotOf Z KC KM "[J" ≠ Jvm.RoadKit.slotOf Z KC KB "[J" := slot_ne (Or.inl (own_w hw (i := 16) rfl)) (Or.inl (own_w hw (i := 12) rfl)) (by decide) (t := (.array .long)) (t' := (.array .long)) (by decide) (by decide)
theorem d9_12 : decode prog_126_method_12_code 12 = .ok (.aload_n 0, 1) := by decide +kernel
theorem d9_13 : decode prog_126_method_12_code 13 = .ok (.aload_n 0, 1) := by decide +kernel
theorem d9_14 : decode prog_126_method_12_code 14 = .ok (.getfield 16, 3) := by decide +kernel
theorem d9_17 : decode prog_126_method_12_code 17 = .ok (.iload_n 1, 1) := by decide +kernel
theorem d9_18 : decode prog_126_method_12_code 18 = .ok (.invokestatic 57, 3) := by decide +kernel
theorem d9_21 : decode prog_126_method_12_code 21 = .ok (.putfield 16, 3) := by decide +kernel
theorem sn_73 {Z : State} {a0 : Array Value} (hw : ∀ d ∈ tables_1, d.before a0 Z = true) : Jvm.RoadKit.slotOf Z KC "count" "I" ≠ Jvm.RoadKit.slotOf Z KC KP "[J" := slot_ne (Or.inl (own_w hw (i := 28) rfl)) (Or.inl (own_w hw (i := 14) rfl)) (by decide) (t := .int) (t' := (.array .long)) (by decide) (by decide)
theorem sn_74 {Z : State} {a0 : Array Value} (hw : ∀ d ∈ tables_1, d.before a0 Z = true) : Jvm.RoadKit.slotOf Z KC "first" "J" ≠ Jvm.RoadKit.slotOf Z KC KP "[J" := slot_ne (Or.inl (own_w hw (i := 40) rfl)) (Or.inl (own_w hw (i := 14) rfl)) (by decide) (t := .long) (t' := (.array .long)) (by decide) (by decide)
theorem sn_75 {Z : State} {a0 : Array Value} (hw : ∀ d ∈ tables_1, d.before a0 Z = true) : Jvm.RoadKit.slotOf Z KC KB "[J" ≠ Jvm.RoadKit.slotOf Z KC KP "[J" := slot_ne (Or.inl (own_w hw (i := 12) rfl)) (Or.inl (own_w hw (i := 14) rfl)) (by decide) (t := (.array .long)) (t' := (.array .long)) (by decide) (by decide)
theorem sn_76 {Z : State} {a0 : Array Value} (hw : ∀ d ∈ tables_1, d.before a0 Z = true) : Jvm.RoadKit.slotOf Z KC KM "[J" ≠ Jvm.RoadKit.slotOf Z KC KP "[J" := slot_ne (Or.inl (own_w hw (i := 16) rfl)) (Or.inl (own_w hw (i := 14) rfl)) (by decide) (t := (.array .long)) (t' := (.array .long)) (by decide) (by decide)
theorem d9_24 : decode prog_126_method_12_code 24 = .ok (.aload_n 0, 1) := by decide +kernel
theorem d9_25 : decode prog_126_method_12_code 25 = .ok (.aload_n 0, 1) := by decide +kernel
theorem d9_26 : decode prog_126_method_12_code 26 = .ok (.getfield 19, 3) := by decide +kernel
theorem d9_29 : decode prog_126_method_12_code 29 = .ok (.iload_n 1, 1) := by decide +kernel
theorem d9_30 : decode prog_126_method_12_code 30 = .ok (.invokestatic 57, 3) := by decide +kernel
theorem d9_33 : decode prog_126_method_12_code 33 = .ok (.putfield 19, 3) := by decide +kernel
theorem sn_83 {Z : State} {a0 : Array Value} (hw : ∀ d ∈ tables_1, d.before a0 Z = true) : Jvm.RoadKit.slotOf Z KC "count" "I" ≠ Jvm.RoadKit.slotOf Z KC KM "[J" := slot_ne (Or.inl (own_w hw (i := 28) rfl)) (Or.inl (own_w hw (i := 16) rfl)) (by decide) (t := .int) (t' := (.array .long)) (by decide) (by decide)
theorem sn_84 {Z : State} {a0 : Array Value} (hw : ∀ d ∈ tables_1, d.before a0 Z = true) : Jvm.RoadKit.slotOf Z KC "first" "J" ≠ Jvm.RoadKit.slotOf Z KC KM "[J" := slot_ne (Or.inl (own_w hw (i := 40) rfl)) (Or.inl (own_w hw (i := 16) rfl)) (by decide) (t := .long) (t' := (.array .long)) (by decide) (by decide)
theorem sn_85 {Z : State} {a0 : Array Value} (hw : ∀ d ∈ tables_1, d.before a0 Z = true) : Jvm.RoadKit.slotOf Z KC KB "[J" ≠ Jvm.RoadKit.slotOf Z KC KM "[J" := slot_ne (Or.inl (own_w hw (i := 12) rfl)) (Or.inl (own_w hw (i := 16) rfl)) (by decide) (t := (.array .long)) (t' := (.array .long)) (by decide) (by decide)
theorem sn_86 {Z : State} {a0 : Array Value} (hw : ∀ d ∈ tables_1, d.before a0 Z = true) : Jvm.RoadKit.slotOf Z KC KP "[J" ≠ Jvm.RoadKit.slotOf Z KC KM "[J" := slot_ne (Or.inl (own_w hw (i := 14) rfl)) (Or.inl (own_w hw (i := 16) rfl)) (by decide) (t := (.array .long)) (t' := (.array .long)) (by decide) (by decide)
theorem d9_36 : decode prog_126_method_12_code 36 = .ok (.return_, 1) := by decide +kernel
theorem ef_rz0 (m : MethodId) (x0 : Addr) (x1 : Int32) : entryFrame m #[(.ref x0), (.int x1)] 2 = mkF m 0 #[.val (.ref x0), .val (.int x1)] [] := by first | (simp [entryFrame, mkF, argsToLocals, Value.category]; done) | rfl
abbrev R_rz0 : Room := { frames := 2, cells := 3, slots := 24, locals := 71 }
def Qrz0 (Z : State) (a1 : Addr) (w : Addr) (kw : ClassId) (cc : Int32) (ff : Int64) (h0 : Heap) (n0 : Nat) (v : Option Value) (h : Heap) (L : List Loc) : Prop := ∃ (n1 : Addr) (kn1 : ClassId) (n2 : Addr) (kn2 : ClassId) (n3 : Addr) (kn3 : ClassId), v = none ∧ Fr n0 L ∧ Keep h0 h [a1] ∧ n0 ≤ n1 ∧ n0 ≤ n2 ∧ n0 ≤ n3 ∧ h0.size ≤ n1 ∧ h0.size ≤ n2 ∧ h0.size ≤ n3 ∧ n2 ≠ n1 ∧ n3 ≠ n1 ∧ n3 ≠ n2 ∧ Exa Z h a1 KC ∧ Fld Z h a1 KC KB "[J" (.ref n1) ∧ Fld Z h a1 KC KP "[J" (.ref n2) ∧ Fld Z h a1 KC KM "[J" (.ref n3) ∧ Fld Z h a1 KC "count" "I" (.int cc) ∧ Fld Z h a1 KC "first" "J" (.long ff) ∧ Arv Z h n1 kn1 .long (8 : Int32) [(.long 0), (.long 0), (.long 0), (.long 0), (.long 0), (.long 0), (.long 0), (.long 0)] (.long 0) ∧ Exa Z h n1 "[J" ∧ Arv Z h n2 kn2 .long (8 : Int32) [(.long 0), (.long 0), (.long 0), (.long 0), (.long 0), (.long 0), (.long 0), (.long 0)] (.long 0) ∧ Exa Z h n2 "[J" ∧ Arv Z h n3 kn3 .long (8 : Int32) [(.long 0), (.long 0), (.long 0), (.long 0), (.long 0), (.long 0), (.long 0), (.long 0)] (.long 0) ∧ Exa Z h n3 "[J"
set_option maxRecDepth 65536 in
set_option maxHeartbeats 40000000 in
theorem rmrz0 (l : Launch) (Z : State) (a0 : Array Value) (hw : ∀ d ∈ tables_1, d.before a0 Z = true) (ws : List Jvm.Cond) (a1 : Addr) (w : Addr) (kw : ClassId) (cc : Int32) (ff : Int64) (h0 : Heap) (n0 : Nat) (Z0 : n0 ≤ h0.size) (E_a1 : Exa Z h0 a1 KC) (F_count_a1 : Fld Z h0 a1 KC "count" "I" (.int cc)) (F_first_a1 : Fld Z h0 a1 KC "first" "J" (.long ff)) (F_baseOffsets_a1 : Fld Z h0 a1 KC KB "[J" (.ref w)) (F_positions_a1 : Fld Z h0 a1 KC KP "[J" (.ref w)) (F_maxTimestampsSoFar_a1 : Fld Z h0 a1 KC KM "[J" (.ref w)) (V_w : Arv Z h0 w kw .long (0 : Int32) [] (.long 0)) (g_a1 : n0 ≤ a1) (ne_w_a1 : w ≠ a1) :
    MetFree l (⟨KC, "resize", "(I)V"⟩ : MethodName) (head1 (Jvm.Cond.code (⟨KC, "resize", "(I)V"⟩ : MethodName) prog_126_method_12_code 2 none :: ws) R_rz0) (fun a U => a = #[(.ref a1), (.int 8)] ∧ Z.Warmed39 U.vm ∧ U.heap = h0) (fun _ _ _ _ _ => True) (fun _ U o U' => ∃ v L, o = .returned v ∧ Qrz0 Z a1 w kw cc ff h0 n0 v U'.heap L ∧ FrameEnd U o U' L R_rz0.cells R_rz0.slots) := by
  refine MetFree.of_bodySF (plainFor_of_name pn_55) hisR ?_
  intro p e s m args below meth c s₁ Bd hml0 hP hK
  obtain ⟨rfl, hZ, hh⟩ := hP
  have hx := Bd.exec
  have hby := Bd.bytes
  have hml : c.maxLocals = 2 := hml0
  have hown : s.vm.findClass KC = some m.cls := findClass_of_methodNamed Bd.named
  have hnm := (name_of_methodNamed Bd.named Bd.method).1
  have X0 : Stand p l e R_rz0 s m #[(.ref a1), (.int 8)] below meth c s₁ [] 0 0 := Stand.of_body Bd
  have e0 : s₁.heap = h0 := by rw [← hh, Bd.state]; rfl
  have N0 := Fr.nil n0
  have pre0 : ∀ t, Steps p.tables e below (s₁.setTop (mkF m 0 #[uR a1, uI 8] [])) t → Steps p.tables e below (s₁.setTop (entryFrame m #[(.ref a1), (.int 8)] 2)) t := fun t k => castTop (ef_rz0 m a1 (8 : Int32)) k
  obtain ⟨T1, X1, e1, st1⟩ := getF X0 hx hZ hown (host := "") (Or.inl (own_w hw (i := 11) rfl)) Via.refl e0 F_baseOffsets_a1 (g := (mkF m 2 #[uR a1, uI 8] [(.ref a1), (.ref a1)])) rfl rfl (hb hby d9_2)
  -- pc 6: Arrays.copyOf by rmcp0
  obtain ⟨_, _, ⟨T2, L2, ck2, cn2⟩, -, X2, ⟨Lc2, hQ2, l2, y2, z2⟩, st2⟩ := Jvm.LawKit.callS X1 hx (y := (⟨"java/util/Arrays", "copyOf", "([JI)[J"⟩ : MethodName)) hown (mvT hZ (own_w hw (i := 53) rfl)) (mvT hZ (own_w hw (i := 54) rfl)) (mvT hZ (own_w hw (i := 31) rfl)) (mvT hZ (own_w hw (i := 55) rfl)) (by decide) (backOf (W := 1) (rmcp0 l Z a0 hw [] w kw h0 n0 Z0 V_w) hZ (own_w hw (i := 55) rfl) (own_w hw (i := 31) rfl) (by decide) (by decide)) (g := (mkF m 6 #[uR a1, uI 8] [(.int 8), (.ref w), (.ref a1)])) rfl (by rw [hml]; rfl) (argsL := [(.ref w), (.int 8)]) (rest := [(.ref a1)]) (lenOf pd_61 rfl) rfl (by show 2 * 0 + _ ≤ _; exact Nat.le_of_eq rfl) (hb hby d9_6) (fun _ _ => ⟨rfl, e1, (by decide : 0 + 1 ≤ _), (by decide : 0 + 8 ≤ _)⟩)
  dsimp only [Pt.U, Pt.locs, Pt.cells, Pt.slots] at X2 l2 y2 z2 st2 hQ2
  subst y2 z2
  obtain ⟨n1_2, kn1_2, rfl, N2q, K2q, gq2_0, sq2_0, o2_0, o2_1⟩ := hQ2
  have N3 : Fr n0 L2 := by rw [l2]; exact Fr.app N0 N2q
  have ne4 : a1 ≠ n1_2 := Nat.ne_of_lt (Nat.lt_of_lt_of_le E_a1.lt sq2_0)
  have sz_n1_2 : h0.size ≤ n1_2 := Nat.le_trans (Keep.refl h0 [a1]).1 sq2_0
  have f6 := E_a1.keep K2q
  have f7 := F_count_a1.keep K2q nin0
  have f8 := F_first_a1.keep K2q nin0
  have f9 := F_baseOffsets_a1.keep K2q nin0
  have f10 := F_positions_a1.keep K2q nin0
  have f11 := F_maxTimestampsSoFar_a1.keep K2q nin0
  have f12 := V_w.keep K2q nin0
  have zs13 : n0 ≤ T2.heap.size := Nat.le_trans Z0 K2q.1
  have K14 := (Keep.refl h0 [a1]).trans K2q all0
  obtain ⟨T15, h15, X15, e15, W15, st15⟩ := putF X2 hx hZ hown (host := "") (Or.inl (own_w hw (i := 11) rfl)) Via.refl rfl f9 f6 (Or.inl (own_w hw (i := 12) rfl)) (own_w hw (i := 1) rfl) (ty := (.array .long)) (by decide) rfl rfl (g := (mkF m 9 #[uR a1, uI 8] [(.ref n1_2), (.ref a1)])) rfl rfl (hb hby d9_9)
  have f16 := f6.wr W15
  have f17 := f7.other W15 (Or.inr (sn_63 hw))
  have f18 := f8.other W15 (Or.inr (sn_64 hw))
  have f19 := f9.same W15
  have f20 := f10.other W15 (Or.inr (sn_65 hw))
  have f21 := f11.other W15 (Or.inr (sn_66 hw))
  have f22 := f12.other W15 ne_w_a1
  have f23 := o2_0.other W15 (Ne.symm ne4)
  have f24 := o2_1.wr W15
  have K25 := K14.wr W15 (Or.inl (List.mem_of_getElem? (i := 0) rfl))
  have zs26 : n0 ≤ h15.size := Nat.le_trans zs13 (Keep.of_wr W15).1
  have N27 := Fr.snoc X15 N3 g_a1
  obtain ⟨T28, X28, e28, st28⟩ := getF X15 hx hZ hown (host := "") (Or.inl (own_w hw (i := 13) rfl)) Via.refl e15 f20 (g := (mkF m 14 #[uR a1, uI 8] [(.ref a1), (.ref a1)])) rfl rfl (hb hby d9_14)
  -- pc 18: Arrays.copyOf by rmcp0
  obtain ⟨_, _, ⟨T29, L29, ck29, cn29⟩, -, X29, ⟨Lc29, hQ29, l29, y29, z29⟩, st29⟩ := Jvm.LawKit.callS X28 hx (y := (⟨"java/util/Arrays", "copyOf", "([JI)[J"⟩ : MethodName)) hown (mvT hZ (own_w hw (i := 53) rfl)) (mvT hZ (own_w hw (i := 54) rfl)) (mvT hZ (own_w hw (i := 31) rfl)) (mvT hZ (own_w hw (i := 55) rfl)) (by decide) (backOf (W := 1) (rmcp0 l Z a0 hw [] w kw h15 n0 zs26 f22) hZ (own_w hw (i := 55) rfl) (own_w hw (i := 31) rfl) (by decide) (by decide)) (g := (mkF m 18 #[uR a1, uI 8] [(.int 8), (.ref w), (.ref a1)])) rfl (by rw [hml]; rfl) (argsL := [(.ref w), (.int 8)]) (rest := [(.ref a1)]) (lenOf pd_61 rfl) rfl (by show 2 * 0 + _ ≤ _; exact Nat.le_of_eq rfl) (hb hby d9_18) (fun _ _ => ⟨rfl, e28, (by decide : 1 + 1 ≤ _), (by decide : 8 + 8 ≤ _)⟩)
  dsimp only [Pt.U, Pt.locs, Pt.cells, Pt.slots] at X29 l29 y29 z29 st29 hQ29
  subst y29 z29
  obtain ⟨n1_29, kn1_29, rfl, N29q, K29q, gq29_0, sq29_0, o29_0, o29_1⟩ := hQ29
  have N30 : Fr n0 L29 := by rw [l29]; exact Fr.app N27 N29q
  have ne31 : a1 ≠ n1_29 := Nat.ne_of_lt (Nat.lt_of_lt_of_le f16.lt sq29_0)
  have ne33 : n1_2 ≠ n1_29 := Nat.ne_of_lt (Nat.lt_of_lt_of_le f23.lt sq29_0)
  have sz_n1_29 : h0.size ≤ n1_29 := Nat.le_trans K25.1 sq29_0
  have f34 := f16.keep K29q
  have f35 := f17.keep K29q nin0
  have f36 := f18.keep K29q nin0
  have f37 := f19.keep K29q nin0
  have f38 := f20.keep K29q nin0
  have f39 := f21.keep K29q nin0
  have f40 := f22.keep K29q nin0
  have f41 := f23.keep K29q nin0
  have f42 := f24.keep K29q
  have zs43 : n0 ≤ T29.heap.size := Nat.le_trans zs26 K29q.1
  have K44 := K25.trans K29q all0
  obtain ⟨T45, h45, X45, e45, W45, st45⟩ := putF X29 hx hZ hown (host := "") (Or.inl (own_w hw (i := 13) rfl)) Via.refl rfl f38 f34 (Or.inl (own_w hw (i := 14) rfl)) (own_w hw (i := 1) rfl) (ty := (.array .long)) (by decide) rfl rfl (g := (mkF m 21 #[uR a1, uI 8] [(.ref n1_29), (.ref a1)])) rfl rfl (hb hby d9_21)
  have f46 := f34.wr W45
  have f47 := f35.other W45 (Or.inr (sn_73 hw))
  have f48 := f36.other W45 (Or.inr (sn_74 hw))
  have f49 := f37.other W45 (Or.inr (sn_75 hw))
  have f50 := f38.same W45
  have f51 := f39.other W45 (Or.inr (sn_76 hw))
  have f52 := f40.other W45 ne_w_a1
  have f53 := f41.other W45 (Ne.symm ne4)
  have f54 := f42.wr W45
  have f55 := o29_0.other W45 (Ne.symm ne31)
  have f56 := o29_1.wr W45
  have K57 := K44.wr W45 (Or.inl (List.mem_of_getElem? (i := 0) rfl))
  have zs58 : n0 ≤ h45.size := Nat.le_trans zs43 (Keep.of_wr W45).1
  have N59 := Fr.snoc X45 N30 g_a1
  obtain ⟨T60, X60, e60, st60⟩ := getF X45 hx hZ hown (host := "") (Or.inl (own_w hw (i := 15) rfl)) Via.refl e45 f51 (g := (mkF m 26 #[uR a1, uI 8] [(.ref a1), (.ref a1)])) rfl rfl (hb hby d9_26)
  -- pc 30: Arrays.copyOf by rmcp0
  obtain ⟨_, _, ⟨T61, L61, ck61, cn61⟩, -, X61, ⟨Lc61, hQ61, l61, y61, z61⟩, st61⟩ := Jvm.LawKit.callS X60 hx (y := (⟨"java/util/Arrays", "copyOf", "([JI)[J"⟩ : MethodName)) hown (mvT hZ (own_w hw (i := 53) rfl)) (mvT hZ (own_w hw (i := 54) rfl)) (mvT hZ (own_w hw (i := 31) rfl)) (mvT hZ (own_w hw (i := 55) rfl)) (by decide) (backOf (W := 1) (rmcp0 l Z a0 hw [] w kw h45 n0 zs58 f52) hZ (own_w hw (i := 55) rfl) (own_w hw (i := 31) rfl) (by decide) (by decide)) (g := (mkF m 30 #[uR a1, uI 8] [(.int 8), (.ref w), (.ref a1)])) rfl (by rw [hml]; rfl) (argsL := [(.ref w), (.int 8)]) (rest := [(.ref a1)]) (lenOf pd_61 rfl) rfl (by show 2 * 0 + _ ≤ _; exact Nat.le_of_eq rfl) (hb hby d9_30) (fun _ _ => ⟨rfl, e60, (by decide : 2 + 1 ≤ _), (by decide : 16 + 8 ≤ _)⟩)
  dsimp only [Pt.U, Pt.locs, Pt.cells, Pt.slots] at X61 l61 y61 z61 st61 hQ61
  subst y61 z61
  obtain ⟨n1_61, kn1_61, rfl, N61q, K61q, gq61_0, sq61_0, o61_0, o61_1⟩ := hQ61
  have N62 : Fr n0 L61 := by rw [l61]; exact Fr.app N59 N61q
  have ne63 : a1 ≠ n1_61 := Nat.ne_of_lt (Nat.lt_of_lt_of_le f46.lt sq61_0)
  have ne65 : n1_2 ≠ n1_61 := Nat.ne_of_lt (Nat.lt_of_lt_of_le f53.lt sq61_0)
  have ne66 : n1_29 ≠ n1_61 := Nat.ne_of_lt (Nat.lt_of_lt_of_le f55.lt sq61_0)
  have sz_n1_61 : h0.size ≤ n1_61 := Nat.le_trans K57.1 sq61_0
  have f67 := f46.keep K61q
  have f68 := f47.keep K61q nin0
  have f69 := f48.keep K61q nin0
  have f70 := f49.keep K61q nin0
  have f71 := f50.keep K61q nin0
  have f72 := f51.keep K61q nin0
  have f74 := f53.keep K61q nin0
  have f75 := f54.keep K61q
  have f76 := f55.keep K61q nin0
  have f77 := f56.keep K61q
  have K79 := K57.trans K61q all0
  obtain ⟨T80, h80, X80, e80, W80, st80⟩ := putF X61 hx hZ hown (host := "") (Or.inl (own_w hw (i := 15) rfl)) Via.refl rfl f72 f67 (Or.inl (own_w hw (i := 16) rfl)) (own_w hw (i := 1) rfl) (ty := (.array .long)) (by decide) rfl rfl (g := (mkF m 33 #[uR a1, uI 8] [(.ref n1_61), (.ref a1)])) rfl rfl (hb hby d9_33)
  have f81 := f67.wr W80
  have f82 := f68.other W80 (Or.inr (sn_83 hw))
  have f83 := f69.other W80 (Or.inr (sn_84 hw))
  have f84 := f70.other W80 (Or.inr (sn_85 hw))
  have f85 := f71.other W80 (Or.inr (sn_86 hw))
  have f86 := f72.same W80
  have f88 := f74.other W80 (Ne.symm ne4)
  have f89 := f75.wr W80
  have f90 := f76.other W80 (Ne.symm ne31)
  have f91 := f77.wr W80
  have f92 := o61_0.other W80 (Ne.symm ne63)
  have f93 := o61_1.wr W80
  have K94 := K79.wr W80 (Or.inl (List.mem_of_getElem? (i := 0) rfl))
  have N96 := Fr.snoc X80 N62 g_a1
  obtain ⟨fs, hr, hrun, hended, hW, hsame⟩ := X80.leave (v := none) (fun _ => rfl) Bd.notSynchronized
  refine ⟨_, _, pre0 _ ?_, hrun, hended, _, _, rfl, ?_, ⟨_, rfl⟩, hW, hsame.mono (by decide) (by decide)⟩
  · show Steps p.tables e below (s₁.setTop (mkF m 0 #[uR a1, uI 8] [])) _
    refine XS.aloadN X0.here hx rfl (hb hby d9_0) rfl rfl ?_
    refine XS.aloadN X0.here hx rfl (hb hby d9_1) rfl rfl ?_
    refine st1 _ ?_
    refine XS.iloadN X1.here hx rfl (hb hby d9_5) rfl ?_
    refine st2 _ ?_
    refine st15 _ ?_
    refine XS.aloadN X15.here hx rfl (hb hby d9_12) rfl rfl ?_
    refine XS.aloadN X15.here hx rfl (hb hby d9_13) rfl rfl ?_
    refine st28 _ ?_
    refine XS.iloadN X28.here hx rfl (hb hby d9_17) rfl ?_
    refine st29 _ ?_
    refine st45 _ ?_
    refine XS.aloadN X45.here hx rfl (hb hby d9_24) rfl rfl ?_
    refine XS.aloadN X45.here hx rfl (hb hby d9_25) rfl rfl ?_
    refine st60 _ ?_
    refine XS.iloadN X60.here hx rfl (hb hby d9_29) rfl ?_
    show Steps p.tables e below (T60.setTop (mkF m 30 #[uR a1, uI 8] [(.int 8), (.ref w), (.ref a1)])) _
    refine st61 _ ?_
    refine st80 _ ?_
    exact X80.returnOut hx Bd.returns (hb hby d9_36) hr
  · show Qrz0 Z a1 w kw cc ff h0 n0 _ T80.heap _
    rw [e80]
    exact ⟨n1_2, kn1_2, n1_29, kn1_29, n1_61, kn1_61, rfl, N96, K94, gq2_0, gq29_0, gq61_0, sz_n1_2, sz_n1_29, sz_n1_61, (Ne.symm ne33), (Ne.symm ne65), (Ne.symm ne66), f81, f84, f85, f86, f82, f83, f88, f89, f90, f91, f92, f93⟩
theorem ef_rz8 (m : MethodId) (x0 : Addr) (x1 : Int32) : entryFrame m #[(.ref x0), (.int x1)] 2 = mkF m 0 #[.val (.ref x0), .val (.int x1)] [] := by first | (simp [entryFrame, mkF, argsToLocals, Value.category]; done) | rfl
abbrev R_rz8 : Room := { frames := 2, cells := 3, slots := 24, locals := 29 }
def Qrz8 (Z : State) (a1 : Addr) (aB : Addr) (aP : Addr) (aM : Addr) (kB : ClassId) (kP : ClassId) (kM : ClassId) (cc : Int32) (ff : Int64) (b0 : Int64) (b1 : Int64) (b2 : Int64) (b3 : Int64) (b4 : Int64) (b5 : Int64) (b6 : Int64) (b7 : Int64) (c0 : Int64) (c1 : Int64) (c2 : Int64) (c3 : Int64) (c4 : Int64) (c5 : Int64) (c6 : Int64) (c7 : Int64) (x0 : Int64) (x1 : Int64) (x2 : Int64) (x3 : Int64) (x4 : Int64) (x5 : Int64) (x6 : Int64) (x7 : Int64) (h0 : Heap) (n0 : Nat) (v : Option Value) (h : Heap) (L : List Loc) : Prop := ∃ (n1 : Addr) (kn1 : ClassId) (n2 : Addr) (kn2 : ClassId) (n3 : Addr) (kn3 : ClassId), v = none ∧ Fr n0 L ∧ Keep h0 h [a1] ∧ n0 ≤ n1 ∧ n0 ≤ n2 ∧ n0 ≤ n3 ∧ h0.size ≤ n1 ∧ h0.size ≤ n2 ∧ h0.size ≤ n3 ∧ n2 ≠ n1 ∧ n3 ≠ n1 ∧ n3 ≠ n2 ∧ Exa Z h a1 KC ∧ Fld Z h a1 KC KB "[J" (.ref n1) ∧ Fld Z h a1 KC KP "[J" (.ref n2) ∧ Fld Z h a1 KC KM "[J" (.ref n3) ∧ Fld Z h a1 KC "count" "I" (.int cc) ∧ Fld Z h a1 KC "first" "J" (.long ff) ∧ Arv Z h n1 kn1 .long (8 : Int32) [(.long b0), (.long b1), (.long b2), (.long b3), (.long b4), (.long b5), (.long b6), (.long b7)] (.long 0) ∧ Exa Z h n1 "[J" ∧ Arv Z h n2 kn2 .long (8 : Int32) [(.long c0), (.long c1), (.long c2), (.long c3), (.long c4), (.long c5), (.long c6), (.long c7)] (.long 0) ∧ Exa Z h n2 "[J" ∧ Arv Z h n3 kn3 .long (8 : Int32) [(.long x0), (.long x1), (.long x2), (.long x3), (.long x4), (.long x5), (.long x6), (.long x7)] (.long 0) ∧ Exa Z h n3 "[J"
set_option maxRecDepth 65536 in
set_option maxHeartbeats 40000000 in
theorem rmrz8 (l : Launch) (Z : State) (a0 : Array Value) (hw : ∀ d ∈ tables_1, d.before a0 Z = true) (ws : List Jvm.Cond) (a1 : Addr) (aB : Addr) (aP : Addr) (aM : Addr) (kB : ClassId) (kP : ClassId) (kM : ClassId) (cc : Int32) (ff : Int64) (b0 : Int64) (b1 : Int64) (b2 : Int64) (b3 : Int64) (b4 : Int64) (b5 : Int64) (b6 : Int64) (b7 : Int64) (c0 : Int64) (c1 : Int64) (c2 : Int64) (c3 : Int64) (c4 : Int64) (c5 : Int64) (c6 : Int64) (c7 : Int64) (x0 : Int64) (x1 : Int64) (x2 : Int64) (x3 : Int64) (x4 : Int64) (x5 : Int64) (x6 : Int64) (x7 : Int64) (h0 : Heap) (n0 : Nat) (Z0 : n0 ≤ h0.size) (E_a1 : Exa Z h0 a1 KC) (F_count_a1 : Fld Z h0 a1 KC "count" "I" (.int cc)) (F_first_a1 : Fld Z h0 a1 KC "first" "J" (.long ff)) (F_baseOffsets_a1 : Fld Z h0 a1 KC KB "[J" (.ref aB)) (F_positions_a1 : Fld Z h0 a1 KC KP "[J" (.ref aP)) (F_maxTimestampsSoFar_a1 : Fld Z h0 a1 KC KM "[J" (.ref aM)) (V_aB : Arv Z h0 aB kB .long (8 : Int32) [(.long b0), (.long b1), (.long b2), (.long b3), (.long b4), (.long b5), (.long b6), (.long b7)] (.long 0)) (V_aP : Arv Z h0 aP kP .long (8 : Int32) [(.long c0), (.long c1), (.long c2), (.long c3), (.long c4), (.long c5), (.long c6), (.long c7)] (.long 0)) (V_aM : Arv Z h0 aM kM .long (8 : Int32) [(.long x0), (.long x1), (.long x2), (.long x3), (.long x4), (.long x5), (.long x6), (.long x7)] (.long 0)) (E_aB : Exa Z h0 aB "[J") (E_aP : Exa Z h0 aP "[J") (E_aM : Exa Z h0 aM "[J") (g_a1 : n0 ≤ a1) (ne_a1_aB : a1 ≠ aB) (ne_a1_aP : a1 ≠ aP) (ne_a1_aM : a1 ≠ aM) (ne_aB_aP : aB ≠ aP) (ne_aB_aM : aB ≠ aM) (ne_aP_aM : aP ≠ aM) :
    MetFree l (⟨KC, "resize", "(I)V"⟩ : MethodName) (head1 (Jvm.Cond.code (⟨KC, "resize", "(I)V"⟩ : MethodName) prog_126_method_12_code 2 none :: ws) R_rz8) (fun a U => a = #[(.ref a1), (.int 8)] ∧ Z.Warmed39 U.vm ∧ U.heap = h0) (fun _ _ _ _ _ => True) (fun _ U o U' => ∃ v L, o = .returned v ∧ Qrz8 Z a1 aB aP aM kB kP kM cc ff b0 b1 b2 b3 b4 b5 b6 b7 c0 c1 c2 c3 c4 c5 c6 c7 x0 x1 x2 x3 x4 x5 x6 x7 h0 n0 v U'.heap L ∧ FrameEnd U o U' L R_rz8.cells R_rz8.slots) := by
  refine MetFree.of_bodySF (plainFor_of_name pn_55) hisR ?_
  intro p e s m args below meth c s₁ Bd hml0 hP hK
  obtain ⟨rfl, hZ, hh⟩ := hP
  have hx := Bd.exec
  have hby := Bd.bytes
  have hml : c.maxLocals = 2 := hml0
  have hown : s.vm.findClass KC = some m.cls := findClass_of_methodNamed Bd.named
  have hnm := (name_of_methodNamed Bd.named Bd.method).1
  have X0 : Stand p l e R_rz8 s m #[(.ref a1), (.int 8)] below meth c s₁ [] 0 0 := Stand.of_body Bd
  have e0 : s₁.heap = h0 := by rw [← hh, Bd.state]; rfl
  have N0 := Fr.nil n0
  have pre0 : ∀ t, Steps p.tables e below (s₁.setTop (mkF m 0 #[uR a1, uI 8] [])) t → Steps p.tables e below (s₁.setTop (entryFrame m #[(.ref a1), (.int 8)] 2)) t := fun t k => castTop (ef_rz8 m a1 (8 : Int32)) k
  obtain ⟨T1, X1, e1, st1⟩ := getF X0 hx hZ hown (host := "") (Or.inl (own_w hw (i := 11) rfl)) Via.refl e0 F_baseOffsets_a1 (g := (mkF m 2 #[uR a1, uI 8] [(.ref a1), (.ref a1)])) rfl rfl (hb hby d9_2)
  -- pc 6: Arrays.copyOf by rmcp8
  obtain ⟨_, _, ⟨T2, L2, ck2, cn2⟩, -, X2, ⟨Lc2, hQ2, l2, y2, z2⟩, st2⟩ := Jvm.LawKit.callS X1 hx (y := (⟨"java/util/Arrays", "copyOf", "([JI)[J"⟩ : MethodName)) hown (mvT hZ (own_w hw (i := 53) rfl)) (mvT hZ (own_w hw (i := 54) rfl)) (mvT hZ (own_w hw (i := 31) rfl)) (mvT hZ (own_w hw (i := 55) rfl)) (by decide) (backOf (W := 1) (rmcp8 l Z a0 hw [] aB kB b0 b1 b2 b3 b4 b5 b6 b7 h0 n0 Z0 V_aB E_aB) hZ (own_w hw (i := 55) rfl) (own_w hw (i := 31) rfl) (by decide) (by decide)) (g := (mkF m 6 #[uR a1, uI 8] [(.int 8), (.ref aB), (.ref a1)])) rfl (by rw [hml]; rfl) (argsL := [(.ref aB), (.int 8)]) (rest := [(.ref a1)]) (lenOf pd_61 rfl) rfl (by show 2 * 0 + _ ≤ _; exact Nat.le_of_eq rfl) (hb hby d9_6) (fun _ _ => ⟨rfl, e1, (by decide : 0 + 1 ≤ _), (by decide : 0 + 8 ≤ _)⟩)
  dsimp only [Pt.U, Pt.locs, Pt.cells, Pt.slots] at X2 l2 y2 z2 st2 hQ2
  subst y2 z2
  obtain ⟨n1_2, kn1_2, rfl, N2q, K2q, gq2_0, sq2_0, o2_0, o2_1⟩ := hQ2
  have N3 : Fr n0 L2 := by rw [l2]; exact Fr.app N0 N2q
  have ne4 : a1 ≠ n1_2 := Nat.ne_of_lt (Nat.lt_of_lt_of_le E_a1.lt sq2_0)
  have sz_n1_2 : h0.size ≤ n1_2 := Nat.le_trans (Keep.refl h0 [a1]).1 sq2_0
  have f8 := E_a1.keep K2q
  have f9 := F_count_a1.keep K2q nin0
  have f10 := F_first_a1.keep K2q nin0
  have f11 := F_baseOffsets_a1.keep K2q nin0
  have f12 := F_positions_a1.keep K2q nin0
  have f13 := F_maxTimestampsSoFar_a1.keep K2q nin0
  have f15 := V_aP.keep K2q nin0
  have f16 := V_aM.keep K2q nin0
  have f18 := E_aP.keep K2q
  have f19 := E_aM.keep K2q
  have zs20 : n0 ≤ T2.heap.size := Nat.le_trans Z0 K2q.1
  have K21 := (Keep.refl h0 [a1]).trans K2q all0
  obtain ⟨T22, h22, X22, e22, W22, st22⟩ := putF X2 hx hZ hown (host := "") (Or.inl (own_w hw (i := 11) rfl)) Via.refl rfl f11 f8 (Or.inl (own_w hw (i := 12) rfl)) (own_w hw (i := 1) rfl) (ty := (.array .long)) (by decide) rfl rfl (g := (mkF m 9 #[uR a1, uI 8] [(.ref n1_2), (.ref a1)])) rfl rfl (hb hby d9_9)
  have f23 := f8.wr W22
  have f24 := f9.other W22 (Or.inr (sn_63 hw))
  have f25 := f10.other W22 (Or.inr (sn_64 hw))
  have f26 := f11.same W22
  have f27 := f12.other W22 (Or.inr (sn_65 hw))
  have f28 := f13.other W22 (Or.inr (sn_66 hw))
  have f30 := f15.other W22 (Ne.symm ne_a1_aP)
  have f31 := f16.other W22 (Ne.symm ne_a1_aM)
  have f33 := f18.wr W22
  have f34 := f19.wr W22
  have f35 := o2_0.other W22 (Ne.symm ne4)
  have f36 := o2_1.wr W22
  have K37 := K21.wr W22 (Or.inl (List.mem_of_getElem? (i := 0) rfl))
  have zs38 : n0 ≤ h22.size := Nat.le_trans zs20 (Keep.of_wr W22).1
  have N39 := Fr.snoc X22 N3 g_a1
  obtain ⟨T40, X40, e40, st40⟩ := getF X22 hx hZ hown (host := "") (Or.inl (own_w hw (i := 13) rfl)) Via.refl e22 f27 (g := (mkF m 14 #[uR a1, uI 8] [(.ref a1), (.ref a1)])) rfl rfl (hb hby d9_14)
  -- pc 18: Arrays.copyOf by rmcp8
  obtain ⟨_, _, ⟨T41, L41, ck41, cn41⟩, -, X41, ⟨Lc41, hQ41, l41, y41, z41⟩, st41⟩ := Jvm.LawKit.callS X40 hx (y := (⟨"java/util/Arrays", "copyOf", "([JI)[J"⟩ : MethodName)) hown (mvT hZ (own_w hw (i := 53) rfl)) (mvT hZ (own_w hw (i := 54) rfl)) (mvT hZ (own_w hw (i := 31) rfl)) (mvT hZ (own_w hw (i := 55) rfl)) (by decide) (backOf (W := 1) (rmcp8 l Z a0 hw [] aP kP c0 c1 c2 c3 c4 c5 c6 c7 h22 n0 zs38 f30 f33) hZ (own_w hw (i := 55) rfl) (own_w hw (i := 31) rfl) (by decide) (by decide)) (g := (mkF m 18 #[uR a1, uI 8] [(.int 8), (.ref aP), (.ref a1)])) rfl (by rw [hml]; rfl) (argsL := [(.ref aP), (.int 8)]) (rest := [(.ref a1)]) (lenOf pd_61 rfl) rfl (by show 2 * 0 + _ ≤ _; exact Nat.le_of_eq rfl) (hb hby d9_18) (fun _ _ => ⟨rfl, e40, (by decide : 1 + 1 ≤ _), (by decide : 8 + 8 ≤ _)⟩)
  dsimp only [Pt.U, Pt.locs, Pt.cells, Pt.slots] at X41 l41 y41 z41 st41 hQ41
  subst y41 z41
  obtain ⟨n1_41, kn1_41, rfl, N41q, K41q, gq41_0, sq41_0, o41_0, o41_1⟩ := hQ41
  have N42 : Fr n0 L41 := by rw [l41]; exact Fr.app N39 N41q
  have ne43 : a1 ≠ n1_41 := Nat.ne_of_lt (Nat.lt_of_lt_of_le f23.lt sq41_0)
  have ne47 : n1_2 ≠ n1_41 := Nat.ne_of_lt (Nat.lt_of_lt_of_le f35.lt sq41_0)
  have sz_n1_41 : h0.size ≤ n1_41 := Nat.le_trans K37.1 sq41_0
  have f48 := f23.keep K41q
  have f49 := f24.keep K41q nin0
  have f50 := f25.keep K41q nin0
  have f51 := f26.keep K41q nin0
  have f52 := f27.keep K41q nin0
  have f53 := f28.keep K41q nin0
  have f56 := f31.keep K41q nin0
  have f59 := f34.keep K41q
  have f60 := f35.keep K41q nin0
  have f61 := f36.keep K41q
  have zs62 : n0 ≤ T41.heap.size := Nat.le_trans zs38 K41q.1
  have K63 := K37.trans K41q all0
  obtain ⟨T64, h64, X64, e64, W64, st64⟩ := putF X41 hx hZ hown (host := "") (Or.inl (own_w hw (i := 13) rfl)) Via.refl rfl f52 f48 (Or.inl (own_w hw (i := 14) rfl)) (own_w hw (i := 1) rfl) (ty := (.array .long)) (by decide) rfl rfl (g := (mkF m 21 #[uR a1, uI 8] [(.ref n1_41), (.ref a1)])) rfl rfl (hb hby d9_21)
  have f65 := f48.wr W64
  have f66 := f49.other W64 (Or.inr (sn_73 hw))
  have f67 := f50.other W64 (Or.inr (sn_74 hw))
  have f68 := f51.other W64 (Or.inr (sn_75 hw))
  have f69 := f52.same W64
  have f70 := f53.other W64 (Or.inr (sn_76 hw))
  have f73 := f56.other W64 (Ne.symm ne_a1_aM)
  have f76 := f59.wr W64
  have f77 := f60.other W64 (Ne.symm ne4)
  have f78 := f61.wr W64
  have f79 := o41_0.other W64 (Ne.symm ne43)
  have f80 := o41_1.wr W64
  have K81 := K63.wr W64 (Or.inl (List.mem_of_getElem? (i := 0) rfl))
  have zs82 : n0 ≤ h64.size := Nat.le_trans zs62 (Keep.of_wr W64).1
  have N83 := Fr.snoc X64 N42 g_a1
  obtain ⟨T84, X84, e84, st84⟩ := getF X64 hx hZ hown (host := "") (Or.inl (own_w hw (i := 15) rfl)) Via.refl e64 f70 (g := (mkF m 26 #[uR a1, uI 8] [(.ref a1), (.ref a1)])) rfl rfl (hb hby d9_26)
  -- pc 30: Arrays.copyOf by rmcp8
  obtain ⟨_, _, ⟨T85, L85, ck85, cn85⟩, -, X85, ⟨Lc85, hQ85, l85, y85, z85⟩, st85⟩ := Jvm.LawKit.callS X84 hx (y := (⟨"java/util/Arrays", "copyOf", "([JI)[J"⟩ : MethodName)) hown (mvT hZ (own_w hw (i := 53) rfl)) (mvT hZ (own_w hw (i := 54) rfl)) (mvT hZ (own_w hw (i := 31) rfl)) (mvT hZ (own_w hw (i := 55) rfl)) (by decide) (backOf (W := 1) (rmcp8 l Z a0 hw [] aM kM x0 x1 x2 x3 x4 x5 x6 x7 h64 n0 zs82 f73 f76) hZ (own_w hw (i := 55) rfl) (own_w hw (i := 31) rfl) (by decide) (by decide)) (g := (mkF m 30 #[uR a1, uI 8] [(.int 8), (.ref aM), (.ref a1)])) rfl (by rw [hml]; rfl) (argsL := [(.ref aM), (.int 8)]) (rest := [(.ref a1)]) (lenOf pd_61 rfl) rfl (by show 2 * 0 + _ ≤ _; exact Nat.le_of_eq rfl) (hb hby d9_30) (fun _ _ => ⟨rfl, e84, (by decide : 2 + 1 ≤ _), (by decide : 16 + 8 ≤ _)⟩)
  dsimp only [Pt.U, Pt.locs, Pt.cells, Pt.slots] at X85 l85 y85 z85 st85 hQ85
  subst y85 z85
  obtain ⟨n1_85, kn1_85, rfl, N85q, K85q, gq85_0, sq85_0, o85_0, o85_1⟩ := hQ85
  have N86 : Fr n0 L85 := by rw [l85]; exact Fr.app N83 N85q
  have ne87 : a1 ≠ n1_85 := Nat.ne_of_lt (Nat.lt_of_lt_of_le f65.lt sq85_0)
  have ne91 : n1_2 ≠ n1_85 := Nat.ne_of_lt (Nat.lt_of_lt_of_le f77.lt sq85_0)
  have ne92 : n1_41 ≠ n1_85 := Nat.ne_of_lt (Nat.lt_of_lt_of_le f79.lt sq85_0)
  have sz_n1_85 : h0.size ≤ n1_85 := Nat.le_trans K81.1 sq85_0
  have f93 := f65.keep K85q
  have f94 := f66.keep K85q nin0
  have f95 := f67.keep K85q nin0
  have f96 := f68.keep K85q nin0
  have f97 := f69.keep K85q nin0
  have f98 := f70.keep K85q nin0
  have f105 := f77.keep K85q nin0
  have f106 := f78.keep K85q
  have f107 := f79.keep K85q nin0
  have f108 := f80.keep K85q
  have K110 := K81.trans K85q all0
  obtain ⟨T111, h111, X111, e111, W111, st111⟩ := putF X85 hx hZ hown (host := "") (Or.inl (own_w hw (i := 15) rfl)) Via.refl rfl f98 f93 (Or.inl (own_w hw (i := 16) rfl)) (own_w hw (i := 1) rfl) (ty := (.array .long)) (by decide) rfl rfl (g := (mkF m 33 #[uR a1, uI 8] [(.ref n1_85), (.ref a1)])) rfl rfl (hb hby d9_33)
  have f112 := f93.wr W111
  have f113 := f94.other W111 (Or.inr (sn_83 hw))
  have f114 := f95.other W111 (Or.inr (sn_84 hw))
  have f115 := f96.other W111 (Or.inr (sn_85 hw))
  have f116 := f97.other W111 (Or.inr (sn_86 hw))
  have f117 := f98.same W111
  have f124 := f105.other W111 (Ne.symm ne4)
  have f125 := f106.wr W111
  have f126 := f107.other W111 (Ne.symm ne43)
  have f127 := f108.wr W111
  have f128 := o85_0.other W111 (Ne.symm ne87)
  have f129 := o85_1.wr W111
  have K130 := K110.wr W111 (Or.inl (List.mem_of_getElem? (i := 0) rfl))
  have N132 := Fr.snoc X111 N86 g_a1
  obtain ⟨fs, hr, hrun, hended, hW, hsame⟩ := X111.leave (v := none) (fun _ => rfl) Bd.notSynchronized
  refine ⟨_, _, pre0 _ ?_, hrun, hended, _, _, rfl, ?_, ⟨_, rfl⟩, hW, hsame.mono (by decide) (by decide)⟩
  · show Steps p.tables e below (s₁.setTop (mkF m 0 #[uR a1, uI 8] [])) _
    refine XS.aloadN X0.here hx rfl (hb hby d9_0) rfl rfl ?_
    refine XS.aloadN X0.here hx rfl (hb hby d9_1) rfl rfl ?_
    refine st1 _ ?_
    refine XS.iloadN X1.here hx rfl (hb hby d9_5) rfl ?_
    refine st2 _ ?_
    refine st22 _ ?_
    refine XS.aloadN X22.here hx rfl (hb hby d9_12) rfl rfl ?_
    refine XS.aloadN X22.here hx rfl (hb hby d9_13) rfl rfl ?_
    refine st40 _ ?_
    refine XS.iloadN X40.here hx rfl (hb hby d9_17) rfl ?_
    refine st41 _ ?_
    refine st64 _ ?_
    refine XS.aloadN X64.here hx rfl (hb hby d9_24) rfl rfl ?_
    refine XS.aloadN X64.here hx rfl (hb hby d9_25) rfl rfl ?_
    refine st84 _ ?_
    refine XS.iloadN X84.here hx rfl (hb hby d9_29) rfl ?_
    show Steps p.tables e below (T84.setTop (mkF m 30 #[uR a1, uI 8] [(.int 8), (.ref aM), (.ref a1)])) _
    refine st85 _ ?_
    refine st111 _ ?_
    exact X111.returnOut hx Bd.returns (hb hby d9_36) hr
  · show Qrz8 Z a1 aB aP aM kB kP kM cc ff b0 b1 b2 b3 b4 b5 b6 b7 c0 c1 c2 c3 c4 c5 c6 c7 x0 x1 x2 x3 x4 x5 x6 x7 h0 n0 _ T111.heap _
    rw [e111]
    exact ⟨n1_2, kn1_2, n1_41, kn1_41, n1_85, kn1_85, rfl, N132, K130, gq2_0, gq41_0, gq85_0, sz_n1_2, sz_n1_41, sz_n1_85, (Ne.symm ne47), (Ne.symm ne91), (Ne.symm ne92), f112, f115, f116, f117, f113, f114, f124, f125, f126, f127, f128, f129⟩
theorem d1_0 : decode prog_126_method_1_code 0 = .ok (.aload_n 0, 1) := by decide +kernel
theorem d1_1 : decode prog_126_method_1_code 1 = .ok (.invokespecial 1, 3) := by decide +kernel
theorem d1_4 : decode prog_126_method_1_code 4 = .ok (.aload_n 0, 1) := by decide +kernel
theorem d1_5 : decode prog_126_method_1_code 5 = .ok (.getstatic 7, 3) := by decide +kernel
theorem d1_8 : decode prog_126_method_1_code 8 = .ok (.putfield 13, 3) := by decide +kernel
theorem d1_11 : decode prog_126_method_1_code 11 = .ok (.aload_n 0, 1) := by decide +kernel
theorem d1_12 : decode prog_126_method_1_code 12 = .ok (.getstatic 7, 3) := by decide +kernel
theorem d1_15 : decode prog_126_method_1_code 15 = .ok (.putfield 16, 3) := by decide +kernel
theorem d1_18 : decode prog_126_method_1_code 18 = .ok (.aload_n 0, 1) := by decide +kernel
theorem d1_19 : decode prog_126_method_1_code 19 = .ok (.getstatic 7, 3) := by decide +kernel
theorem d1_22 : decode prog_126_method_1_code 22 = .ok (.putfield 19, 3) := by decide +kernel
theorem d1_25 : decode prog_126_method_1_code 25 = .ok (.return_, 1) := by decide +kernel
theorem ef_ini (m : MethodId) (x0 : Addr) : entryFrame m #[(.ref x0)] 1 = mkF m 0 #[.val (.ref x0)] [] := by first | (simp [entryFrame, mkF, argsToLocals, Value.category]; done) | rfl
abbrev R_ini : Room := { frames := 1, cells := 0, slots := 0, locals := 12 }
def Qini (Z : State) (a1 : Addr) (w : Addr) (c0 : Int32) (f0 : Int64) (h0 : Heap) (n0 : Nat) (v : Option Value) (h : Heap) (L : List Loc) : Prop := v = none ∧ Fr n0 L ∧ Keep h0 h [a1] ∧ Exa Z h a1 KC ∧ Fld Z h a1 KC KB "[J" (.ref w) ∧ Fld Z h a1 KC KP "[J" (.ref w) ∧ Fld Z h a1 KC KM "[J" (.ref w) ∧ Fld Z h a1 KC "count" "I" (.int c0) ∧ Fld Z h a1 KC "first" "J" (.long f0)
set_option maxRecDepth 65536 in
set_option maxHeartbeats 40000000 in
theorem rmini (l : Launch) (Z : State) (a0 : Array Value) (hw : ∀ d ∈ tables_1, d.before a0 Z = true) (ws : List Jvm.Cond) (a1 : Addr) (w : Addr) (c0 : Int32) (f0 : Int64) (h0 : Heap) (n0 : Nat) (Z0 : n0 ≤ h0.size) (E_a1 : Exa Z h0 a1 KC) (F_baseOffsets_a1 : Fld Z h0 a1 KC KB "[J" .null) (F_positions_a1 : Fld Z h0 a1 KC KP "[J" .null) (F_maxTimestampsSoFar_a1 : Fld Z h0 a1 KC KM "[J" .null) (F_count_a1 : Fld Z h0 a1 KC "count" "I" (.int c0)) (F_first_a1 : Fld Z h0 a1 KC "first" "J" (.long f0)) (S_NONE : Sta Z h0 KC "NONE" "[J" (.ref w)) (g_a1 : n0 ≤ a1) :
    MetFree l (⟨KC, "<init>", "()V"⟩ : MethodName) (head1 (Jvm.Cond.code (⟨KC, "<init>", "()V"⟩ : MethodName) prog_126_method_1_code 1 none :: ws) R_ini) (fun a U => a = #[(.ref a1)] ∧ Z.Warmed39 U.vm ∧ U.heap = h0) (fun _ _ _ _ _ => True) (fun _ U o U' => ∃ v L, o = .returned v ∧ Qini Z a1 w c0 f0 h0 n0 v U'.heap L ∧ FrameEnd U o U' L R_ini.cells R_ini.slots) := by
  refine MetFree.of_bodySF (plainFor_of_name pn_55) hisR ?_
  intro p e s m args below meth c s₁ Bd hml0 hP hK
  obtain ⟨rfl, hZ, hh⟩ := hP
  have hx := Bd.exec
  have hby := Bd.bytes
  have hml : c.maxLocals = 1 := hml0
  have hown : s.vm.findClass KC = some m.cls := findClass_of_methodNamed Bd.named
  have hnm := (name_of_methodNamed Bd.named Bd.method).1
  have X0 : Stand p l e R_ini s m #[(.ref a1)] below meth c s₁ [] 0 0 := Stand.of_body Bd
  have e0 : s₁.heap = h0 := by rw [← hh, Bd.state]; rfl
  have N0 := Fr.nil n0
  have pre0 : ∀ t, Steps p.tables e below (s₁.setTop (mkF m 0 #[uR a1] [])) t → Steps p.tables e below (s₁.setTop (entryFrame m #[(.ref a1)] 1)) t := fun t k => castTop (ef_ini m a1) k
  obtain ⟨T1, X1, e1, st1⟩ := initO X0 hx hZ hown (own_w hw (i := 6) rfl) (own_w hw (i := 7) rfl) (own_w hw (i := 8) rfl) e0 (g := (mkF m 1 #[uR a1] [(.ref a1)])) rfl (by rw [hml]; rfl) rfl (hb hby d1_1) (by decide) (W := 0) (by show 2 * 0 + _ ≤ _; exact Nat.le_of_eq rfl) (by decide)
  obtain ⟨T2, X2, e2, st2⟩ := getS2 X1 hx hZ hown (host := "") (Or.inl (own_w hw (i := 9) rfl)) Via.refl e1 S_NONE (g := (mkF m 5 #[uR a1] [(.ref a1)])) rfl (hb hby d1_5)
  obtain ⟨T3, h3, X3, e3, W3, st3⟩ := putF X2 hx hZ hown (host := "") (Or.inl (own_w hw (i := 11) rfl)) Via.refl e2 F_baseOffsets_a1 E_a1 (Or.inl (own_w hw (i := 12) rfl)) (own_w hw (i := 1) rfl) (ty := (.array .long)) (by decide) rfl rfl (g := (mkF m 8 #[uR a1] [(.ref w), (.ref a1)])) rfl rfl (hb hby d1_8)
  have f4 := E_a1.wr W3
  have f5 := F_baseOffsets_a1.same W3
  have f6 := F_positions_a1.other W3 (Or.inr (sn_65 hw))
  have f7 := F_maxTimestampsSoFar_a1.other W3 (Or.inr (sn_66 hw))
  have f8 := F_count_a1.other W3 (Or.inr (sn_63 hw))
  have f9 := F_first_a1.other W3 (Or.inr (sn_64 hw))
  have f10 := S_NONE.wr W3
  have K11 := (Keep.refl h0 [a1]).wr W3 (Or.inl (List.mem_of_getElem? (i := 0) rfl))
  have N13 := Fr.snoc X3 N0 g_a1
  obtain ⟨T14, X14, e14, st14⟩ := getS2 X3 hx hZ hown (host := "") (Or.inl (own_w hw (i := 9) rfl)) Via.refl e3 f10 (g := (mkF m 12 #[uR a1] [(.ref a1)])) rfl (hb hby d1_12)
  obtain ⟨T15, h15, X15, e15, W15, st15⟩ := putF X14 hx hZ hown (host := "") (Or.inl (own_w hw (i := 13) rfl)) Via.refl e14 f6 f4 (Or.inl (own_w hw (i := 14) rfl)) (own_w hw (i := 1) rfl) (ty := (.array .long)) (by decide) rfl rfl (g := (mkF m 15 #[uR a1] [(.ref w), (.ref a1)])) rfl rfl (hb hby d1_15)
  have f16 := f4.wr W15
  have f17 := f5.other W15 (Or.inr (sn_75 hw))
  have f18 := f6.same W15
  have f19 := f7.other W15 (Or.inr (sn_76 hw))
  have f20 := f8.other W15 (Or.inr (sn_73 hw))
  have f21 := f9.other W15 (Or.inr (sn_74 hw))
  have f22 := f10.wr W15
  have K23 := K11.wr W15 (Or.inl (List.mem_of_getElem? (i := 0) rfl))
  have N25 := Fr.snoc X15 N13 g_a1
  obtain ⟨T26, X26, e26, st26⟩ := getS2 X15 hx hZ hown (host := "") (Or.inl (own_w hw (i := 9) rfl)) Via.refl e15 f22 (g := (mkF m 19 #[uR a1] [(.ref a1)])) rfl (hb hby d1_19)
  obtain ⟨T27, h27, X27, e27, W27, st27⟩ := putF X26 hx hZ hown (host := "") (Or.inl (own_w hw (i := 15) rfl)) Via.refl e26 f19 f16 (Or.inl (own_w hw (i := 16) rfl)) (own_w hw (i := 1) rfl) (ty := (.array .long)) (by decide) rfl rfl (g := (mkF m 22 #[uR a1] [(.ref w), (.ref a1)])) rfl rfl (hb hby d1_22)
  have f28 := f16.wr W27
  have f29 := f17.other W27 (Or.inr (sn_85 hw))
  have f30 := f18.other W27 (Or.inr (sn_86 hw))
  have f31 := f19.same W27
  have f32 := f20.other W27 (Or.inr (sn_83 hw))
  have f33 := f21.other W27 (Or.inr (sn_84 hw))
  have K35 := K23.wr W27 (Or.inl (List.mem_of_getElem? (i := 0) rfl))
  have N37 := Fr.snoc X27 N25 g_a1
  obtain ⟨fs, hr, hrun, hended, hW, hsame⟩ := X27.leave (v := none) (fun _ => rfl) Bd.notSynchronized
  refine ⟨_, _, pre0 _ ?_, hrun, hended, _, _, rfl, ?_, ⟨_, rfl⟩, hW, hsame.mono (by decide) (by decide)⟩
  · show Steps p.tables e below (s₁.setTop (mkF m 0 #[uR a1] [])) _
    refine XS.aloadN X0.here hx rfl (hb hby d1_0) rfl rfl ?_
    refine st1 _ ?_
    refine XS.aloadN X1.here hx rfl (hb hby d1_4) rfl rfl ?_
    refine st2 _ ?_
    refine st3 _ ?_
    refine XS.aloadN X3.here hx rfl (hb hby d1_11) rfl rfl ?_
    refine st14 _ ?_
    refine st15 _ ?_
    refine XS.aloadN X15.here hx rfl (hb hby d1_18) rfl rfl ?_
    refine st26 _ ?_
    refine st27 _ ?_
    exact X27.returnOut hx Bd.returns (hb hby d1_25) hr
  · show Qini Z a1 w c0 f0 h0 n0 _ T27.heap _
    rw [e27]
    exact ⟨rfl, N37, K35, f28, f29, f30, f31, f32, f33⟩
theorem d14_0 : decode prog_126_method_2_code 0 = .ok (.aload_n 0, 1) := by decide +kernel
theorem d14_1 : decode prog_126_method_2_code 1 = .ok (.getfield 22, 3) := by decide +kernel
theorem d14_4 : decode prog_126_method_2_code 4 = .ok (.aload_n 0, 1) := by decide +kernel
theorem d14_5 : decode prog_126_method_2_code 5 = .ok (.getfield 13, 3) := by decide +kernel
theorem d14_8 : decode prog_126_method_2_code 8 = .ok (.arraylength, 1) := by decide +kernel
theorem d14_9 : decode prog_126_method_2_code 9 = .ok (.if_icmp .ne 18, 3) := by decide +kernel
theorem d14_12 : decode prog_126_method_2_code 12 = .ok (.aload_n 0, 1) := by decide +kernel
theorem d14_13 : decode prog_126_method_2_code 13 = .ok (.aload_n 0, 1) := by decide +kernel
theorem d14_14 : decode prog_126_method_2_code 14 = .ok (.getfield 22, 3) := by decide +kernel
theorem d14_17 : decode prog_126_method_2_code 17 = .ok (.iconst 2, 1) := by decide +kernel
theorem d14_18 : decode prog_126_method_2_code 18 = .ok (.imul, 1) := by decide +kernel
theorem d14_19 : decode prog_126_method_2_code 19 = .ok (.bipush 8, 2) := by decide +kernel
theorem d14_21 : decode prog_126_method_2_code 21 = .ok (.invokestatic 26, 3) := by decide +kernel
theorem d14_24 : decode prog_126_method_2_code 24 = .ok (.invokevirtual 32, 3) := by decide +kernel
theorem pd_114 : parseMethodDescriptor "(I)V" = some ⟨[.int], none⟩ := by decide +kernel
theorem d14_27 : decode prog_126_method_2_code 27 = .ok (.aload_n 0, 1) := by decide +kernel
theorem d14_28 : decode prog_126_method_2_code 28 = .ok (.getfield 13, 3) := by decide +kernel
theorem d14_31 : decode prog_126_method_2_code 31 = .ok (.aload_n 0, 1) := by decide +kernel
theorem d14_32 : decode prog_126_method_2_code 32 = .ok (.getfield 22, 3) := by decide +kernel
theorem d14_35 : decode prog_126_method_2_code 35 = .ok (.lload_n 1, 1) := by decide +kernel
theorem d14_36 : decode prog_126_method_2_code 36 = .ok (.lastore, 1) := by decide +kernel
theorem d14_37 : decode prog_126_method_2_code 37 = .ok (.aload_n 0, 1) := by decide +kernel
theorem d14_38 : decode prog_126_method_2_code 38 = .ok (.getfield 16, 3) := by decide +kernel
theorem d14_41 : decode prog_126_method_2_code 41 = .ok (.aload_n 0, 1) := by decide +kernel
theorem d14_42 : decode prog_126_method_2_code 42 = .ok (.getfield 22, 3) := by decide +kernel
theorem d14_45 : decode prog_126_method_2_code 45 = .ok (.lload_n 3, 1) := by decide +kernel
theorem d14_46 : decode prog_126_method_2_code 46 = .ok (.lastore, 1) := by decide +kernel
theorem d14_47 : decode prog_126_method_2_code 47 = .ok (.aload_n 0, 1) := by decide +kernel
theorem d14_48 : decode prog_126_method_2_code 48 = .ok (.getfield 19, 3) := by decide +kernel
theorem d14_51 : decode prog_126_method_2_code 51 = .ok (.aload_n 0, 1) := by decide +kernel
theorem d14_52 : decode prog_126_method_2_code 52 = .ok (.getfield 22, 3) := by decide +kernel
theorem d14_55 : decode prog_126_method_2_code 55 = .ok (.aload_n 0, 1) := by decide +kernel
theorem d14_56 : decode prog_126_method_2_code 56 = .ok (.getfield 22, 3) := by decide +kernel
theorem d14_59 : decode prog_126_method_2_code 59 = .ok (.ifCond .ne 8, 3) := by decide +kernel
theorem d14_62 : decode prog_126_method_2_code 62 = .ok (.lload 5, 2) := by decide +kernel
theorem d14_64 : decode prog_126_method_2_code 64 = .ok (.goto 19, 3) := by decide +kernel
theorem d14_83 : decode prog_126_method_2_code 83 = .ok (.lastore, 1) := by decide +kernel
theorem d14_84 : decode prog_126_method_2_code 84 = .ok (.aload_n 0, 1) := by decide +kernel
theorem d14_85 : decode prog_126_method_2_code 85 = .ok (.dup, 1) := by decide +kernel
theorem d14_86 : decode prog_126_method_2_code 86 = .ok (.getfield 22, 3) := by decide +kernel
theorem d14_89 : decode prog_126_method_2_code 89 = .ok (.iconst 1, 1) := by decide +kernel
theorem d14_90 : decode prog_126_method_2_code 90 = .ok (.iadd, 1) := by decide +kernel
theorem d14_91 : decode prog_126_method_2_code 91 = .ok (.putfield 22, 3) := by decide +kernel
theorem sn_143 {Z : State} {a0 : Array Value} (hw : ∀ d ∈ tables_1, d.before a0 Z = true) : Jvm.RoadKit.slotOf Z KC KB "[J" ≠ Jvm.RoadKit.slotOf Z KC "count" "I" := slot_ne (Or.inl (own_w hw (i := 12) rfl)) (Or.inl (own_w hw (i := 28) rfl)) (by decide) (t := (.array .long)) (t' := .int) (by decide) (by decide)
theorem sn_144 {Z : State} {a0 : Array Value} (hw : ∀ d ∈ tables_1, d.before a0 Z = true) : Jvm.RoadKit.slotOf Z KC KP "[J" ≠ Jvm.RoadKit.slotOf Z KC "count" "I" := slot_ne (Or.inl (own_w hw (i := 14) rfl)) (Or.inl (own_w hw (i := 28) rfl)) (by decide) (t := (.array .long)) (t' := .int) (by decide) (by decide)
theorem sn_145 {Z : State} {a0 : Array Value} (hw : ∀ d ∈ tables_1, d.before a0 Z = true) : Jvm.RoadKit.slotOf Z KC KM "[J" ≠ Jvm.RoadKit.slotOf Z KC "count" "I" := slot_ne (Or.inl (own_w hw (i := 16) rfl)) (Or.inl (own_w hw (i := 28) rfl)) (by decide) (t := (.array .long)) (t' := .int) (by decide) (by decide)
theorem sn_146 {Z : State} {a0 : Array Value} (hw : ∀ d ∈ tables_1, d.before a0 Z = true) : Jvm.RoadKit.slotOf Z KC "first" "J" ≠ Jvm.RoadKit.slotOf Z KC "count" "I" := slot_ne (Or.inl (own_w hw (i := 40) rfl)) (Or.inl (own_w hw (i := 28) rfl)) (by decide) (t := .long) (t' := .int) (by decide) (by decide)
theorem d14_94 : decode prog_126_method_2_code 94 = .ok (.return_, 1) := by decide +kernel
theorem ef_ad0 (m : MethodId) (x0 : Addr) (x1 : Int64) (x2 : Int64) (x3 : Int64) : entryFrame m #[(.ref x0), (.long x1), (.long x2), (.long x3)] 7 = mkF m 0 #[.val (.ref x0), .val (.long x1), .second, .val (.long x2), .second, .val (.long x3), .second] [] := by first | (simp [entryFrame, mkF, argsToLocals, Value.category]; done) | rfl
abbrev R_ad0 : Room := { frames := 3, cells := 3, slots := 24, locals := 84 }
def Qad0 (Z : State) (a1 : Addr) (q2 : Int64) (q3 : Int64) (q4 : Int64) (w : Addr) (kw : ClassId) (fz : Int64) (h0 : Heap) (n0 : Nat) (v : Option Value) (h : Heap) (L : List Loc) : Prop := ∃ (n1 : Addr) (kn1 : ClassId) (n2 : Addr) (kn2 : ClassId) (n3 : Addr) (kn3 : ClassId), v = none ∧ Fr n0 L ∧ Keep h0 h [a1] ∧ n0 ≤ n1 ∧ n0 ≤ n2 ∧ n0 ≤ n3 ∧ h0.size ≤ n1 ∧ h0.size ≤ n2 ∧ h0.size ≤ n3 ∧ n2 ≠ n1 ∧ n3 ≠ n1 ∧ n3 ≠ n2 ∧ Exa Z h a1 KC ∧ Fld Z h a1 KC KB "[J" (.ref n1) ∧ Fld Z h a1 KC KP "[J" (.ref n2) ∧ Fld Z h a1 KC KM "[J" (.ref n3) ∧ Fld Z h a1 KC "count" "I" (.int 1) ∧ Fld Z h a1 KC "first" "J" (.long fz) ∧ Arv Z h n1 kn1 .long (8 : Int32) [(.long q2), (.long 0), (.long 0), (.long 0), (.long 0), (.long 0), (.long 0), (.long 0)] (.long 0) ∧ Exa Z h n1 "[J" ∧ Arv Z h n2 kn2 .long (8 : Int32) [(.long q3), (.long 0), (.long 0), (.long 0), (.long 0), (.long 0), (.long 0), (.long 0)] (.long 0) ∧ Exa Z h n2 "[J" ∧ Arv Z h n3 kn3 .long (8 : Int32) [(.long q4), (.long 0), (.long 0), (.long 0), (.long 0), (.long 0), (.long 0), (.long 0)] (.long 0) ∧ Exa Z h n3 "[J"
set_option maxRecDepth 65536 in
set_option maxHeartbeats 40000000 in
theorem rmad0 (l : Launch) (Z : State) (a0 : Array Value) (hw : ∀ d ∈ tables_1, d.before a0 Z = true) (ws : List Jvm.Cond) (a1 : Addr) (q2 : Int64) (q3 : Int64) (q4 : Int64) (w : Addr) (kw : ClassId) (fz : Int64) (h0 : Heap) (n0 : Nat) (Z0 : n0 ≤ h0.size) (E_a1 : Exa Z h0 a1 KC) (F_baseOffsets_a1 : Fld Z h0 a1 KC KB "[J" (.ref w)) (F_positions_a1 : Fld Z h0 a1 KC KP "[J" (.ref w)) (F_maxTimestampsSoFar_a1 : Fld Z h0 a1 KC KM "[J" (.ref w)) (F_count_a1 : Fld Z h0 a1 KC "count" "I" (.int 0)) (F_first_a1 : Fld Z h0 a1 KC "first" "J" (.long fz)) (V_w : Arv Z h0 w kw .long (0 : Int32) [] (.long 0)) (g_a1 : n0 ≤ a1) (ne_w_a1 : w ≠ a1) :
    MetFree l (⟨KC, "add", "(JJJ)V"⟩ : MethodName) (head1 (Jvm.Cond.code (⟨KC, "add", "(JJJ)V"⟩ : MethodName) prog_126_method_2_code 7 none :: ws) R_ad0) (fun a U => a = #[(.ref a1), (.long q2), (.long q3), (.long q4)] ∧ Z.Warmed39 U.vm ∧ U.heap = h0) (fun _ _ _ _ _ => True) (fun _ U o U' => ∃ v L, o = .returned v ∧ Qad0 Z a1 q2 q3 q4 w kw fz h0 n0 v U'.heap L ∧ FrameEnd U o U' L R_ad0.cells R_ad0.slots) := by
  refine MetFree.of_bodySF (plainFor_of_name pn_55) hisR ?_
  intro p e s m args below meth c s₁ Bd hml0 hP hK
  obtain ⟨rfl, hZ, hh⟩ := hP
  have hx := Bd.exec
  have hby := Bd.bytes
  have hml : c.maxLocals = 7 := hml0
  have hown : s.vm.findClass KC = some m.cls := findClass_of_methodNamed Bd.named
  have hnm := (name_of_methodNamed Bd.named Bd.method).1
  have X0 : Stand p l e R_ad0 s m #[(.ref a1), (.long q2), (.long q3), (.long q4)] below meth c s₁ [] 0 0 := Stand.of_body Bd
  have e0 : s₁.heap = h0 := by rw [← hh, Bd.state]; rfl
  have N0 := Fr.nil n0
  have pre0 : ∀ t, Steps p.tables e below (s₁.setTop (mkF m 0 #[uR a1, uL q2, uS, uL q3, uS, uL q4, uS] [])) t → Steps p.tables e below (s₁.setTop (entryFrame m #[(.ref a1), (.long q2), (.long q3), (.long q4)] 7)) t := fun t k => castTop (ef_ad0 m a1 q2 q3 q4) k
  obtain ⟨T1, X1, e1, st1⟩ := getF X0 hx hZ hown (host := "") (Or.inl (own_w hw (i := 27) rfl)) Via.refl e0 F_count_a1 (g := (mkF m 1 #[uR a1, uL q2, uS, uL q3, uS, uL q4, uS] [(.ref a1)])) rfl rfl (hb hby d14_1)
  obtain ⟨T2, X2, e2, st2⟩ := getF X1 hx hZ hown (host := "") (Or.inl (own_w hw (i := 11) rfl)) Via.refl e1 F_baseOffsets_a1 (g := (mkF m 5 #[uR a1, uL q2, uS, uL q3, uS, uL q4, uS] [(.ref a1), (.int 0)])) rfl rfl (hb hby d14_5)
  obtain ⟨car3, Aar3, qar3, Sar3, Nar3, Har3, Gar3⟩ := id V_w
  obtain ⟨T4, X4, e4, st4⟩ := getF X2 hx hZ hown (host := "") (Or.inl (own_w hw (i := 27) rfl)) Via.refl e2 F_count_a1 (g := (mkF m 14 #[uR a1, uL q2, uS, uL q3, uS, uL q4, uS] [(.ref a1), (.ref a1)])) rfl rfl (hb hby d14_14)
  -- pc 21: Math.max by rmmx2
  obtain ⟨_, _, ⟨T5, L5, ck5, cn5⟩, -, X5, ⟨Lc5, hQ5, l5, y5, z5⟩, st5⟩ := Jvm.LawKit.callS X4 hx (y := (⟨"java/lang/Math", "max", "(II)I"⟩ : MethodName)) hown (mvT hZ (own_w hw (i := 45) rfl)) (mvT hZ (own_w hw (i := 46) rfl)) (mvT hZ (own_w hw (i := 47) rfl)) (mvT hZ (own_w hw (i := 48) rfl)) (by decide) (backOf (W := 1) (rmmx2 l Z a0 hw [] (0 : Int32) (8 : Int32) h0 n0 Z0 (by decide)) hZ (own_w hw (i := 48) rfl) (own_w hw (i := 47) rfl) (by decide) (by decide)) (g := (mkF m 21 #[uR a1, uL q2, uS, uL q3, uS, uL q4, uS] [(.int 8), (.int 0), (.ref a1)])) rfl (by rw [hml]; rfl) (argsL := [(.int 0), (.int 8)]) (rest := [(.ref a1)]) (lenOf pd_47 rfl) rfl (by show 2 * 0 + _ ≤ _; exact Nat.le_of_eq rfl) (hb hby d14_21) (fun _ _ => ⟨rfl, e4, (by decide : 0 + 0 ≤ _), (by decide : 0 + 0 ≤ _)⟩)
  dsimp only [Pt.U, Pt.locs, Pt.cells, Pt.slots] at X5 l5 y5 z5 st5 hQ5
  subst y5 z5
  obtain ⟨rfl, N5q, e5⟩ := hQ5
  have N6 : Fr n0 L5 := by rw [l5]; exact Fr.app N0 N5q
  -- pc 24: BatchIndex.resize by rmrz0
  obtain ⟨cq7, qc7, qc7'⟩ := E_a1.cell
  obtain ⟨_, _, ⟨T7, L7, ck7, cn7⟩, -, X7, ⟨Lc7, hQ7, l7, y7, z7⟩, st7⟩ := X5.privateBack hx (y := (⟨KC, "resize", "(I)V"⟩ : MethodName)) hown (mvT hZ (own_w hw (i := 49) rfl)) (mvT hZ (own_w hw (i := 50) rfl)) (own_sel (y := (⟨KC, "resize", "(I)V"⟩ : MethodName)) (mvT hZ (own_w hw (i := 1) rfl)) (Cond.privateMethod_at (mvP hZ (own_w hw (i := 51) rfl) (args := #[]))) (mvT hZ (own_w hw (i := 50) rfl)) (by decide)) (Cond.privateMethod_at (mvP hZ (own_w hw (i := 51) rfl) (args := #[]))) (mvT hZ (own_w hw (i := 52) rfl)) (by decide) (backOf (W := 0) (rmrz0 l Z a0 hw [] a1 w kw (0 : Int32) fz h0 n0 Z0 E_a1 F_count_a1 F_first_a1 F_baseOffsets_a1 F_positions_a1 F_maxTimestampsSoFar_a1 V_w g_a1 ne_w_a1) hZ (own_w hw (i := 52) rfl) (own_w hw (i := 2) rfl) (by decide) (by decide)) (g := (mkF m 24 #[uR a1, uL q2, uS, uL q3, uS, uL q4, uS] [(.int 8), (.ref a1)])) rfl (by rw [hml]; rfl) (Steps.refl _) (a := a1) (by rw [e5]; exact qc7) qc7' (argsL := [(.int 8)]) (rest := []) (lenOf pd_114 rfl) rfl (by show 2 * 0 + _ ≤ _; exact Nat.le_of_eq rfl) (hb hby d14_24) (fun _ _ => ⟨rfl, e5, (by decide : 0 + 3 ≤ _), (by decide : 0 + 24 ≤ _)⟩)
  dsimp only [Pt.U, Pt.locs, Pt.cells, Pt.slots] at X7 l7 y7 z7 st7 hQ7
  subst y7 z7
  obtain ⟨n1_7, kn1_7, n2_7, kn2_7, n3_7, kn3_7, rfl, N7q, K7q, gq7_0, gq7_1, gq7_2, sq7_0, sq7_1, sq7_2, nq7_1_0, nq7_2_0, nq7_2_1, o7_0, o7_1, o7_2, o7_3, o7_4, o7_5, o7_6, o7_7, o7_8, o7_9, o7_10, o7_11⟩ := hQ7
  have N8 : Fr n0 L7 := by rw [l7]; exact Fr.app N6 N7q
  have ne9 : a1 ≠ n1_7 := Nat.ne_of_lt (Nat.lt_of_lt_of_le E_a1.lt sq7_0)
  have sz_n1_7 : h0.size ≤ n1_7 := Nat.le_trans (Keep.refl h0 [a1]).1 sq7_0
  have ne11 : a1 ≠ n2_7 := Nat.ne_of_lt (Nat.lt_of_lt_of_le E_a1.lt sq7_1)
  have sz_n2_7 : h0.size ≤ n2_7 := Nat.le_trans (Keep.refl h0 [a1]).1 sq7_1
  have ne13 : a1 ≠ n3_7 := Nat.ne_of_lt (Nat.lt_of_lt_of_le E_a1.lt sq7_2)
  have sz_n3_7 : h0.size ≤ n3_7 := Nat.le_trans (Keep.refl h0 [a1]).1 sq7_2
  have K23 := (Keep.refl h0 [a1]).trans K7q (allS (Or.inl (List.mem_of_getElem? (i := 0) rfl)) all0)
  obtain ⟨T24, X24, e24, st24⟩ := getF X7 hx hZ hown (host := "") (Or.inl (own_w hw (i := 11) rfl)) Via.refl rfl o7_1 (g := (mkF m 28 #[uR a1, uL q2, uS, uL q3, uS, uL q4, uS] [(.ref a1)])) rfl rfl (hb hby d14_28)
  obtain ⟨T25, X25, e25, st25⟩ := getF X24 hx hZ hown (host := "") (Or.inl (own_w hw (i := 27) rfl)) Via.refl e24 o7_4 (g := (mkF m 32 #[uR a1, uL q2, uS, uL q3, uS, uL q4, uS] [(.ref a1), (.ref n1_7)])) rfl rfl (hb hby d14_32)
  obtain ⟨car26, Aar26, qar26, Sar26, Nar26, Har26, Gar26⟩ := id o7_6
  have hinar26 : ¬ ((0 : Int32) < 0 ∨ car26.slots.size ≤ ((0 : Int32)).toNatClampNeg) := inb_of Sar26 ⟨by decide, by decide⟩
  obtain ⟨T27, h27, X27, e27, W27, st27⟩ := stJ X25 hx hZ e25 Aar26 (j := (0 : Int32)) hinar26 (g := (mkF m 36 #[uR a1, uL q2, uS, uL q3, uS, uL q4, uS] [(.long q2), (.int 0), (.ref n1_7)])) rfl rfl (hb hby d14_36)
  have V27 : Arv Z h27 n1_7 kn1_7 .long (8 : Int32) [(.long q2), (.long 0), (.long 0), (.long 0), (.long 0), (.long 0), (.long 0), (.long 0)] (.long 0) := Arv.set Aar26 qar26 Sar26 Nar26 Har26 Gar26 rfl W27 0 rfl (Nat.le_of_ble_eq_true rfl)
  have f28 := o7_0.wr W27
  have f30 := o7_1.other W27 (Or.inl ne9)
  have f31 := o7_2.other W27 (Or.inl ne9)
  have f32 := o7_3.other W27 (Or.inl ne9)
  have f33 := o7_4.other W27 (Or.inl ne9)
  have f34 := o7_5.other W27 (Or.inl ne9)
  have f36 := o7_7.wr W27
  have f37 := o7_8.other W27 nq7_1_0
  have f38 := o7_9.wr W27
  have f39 := o7_10.other W27 nq7_2_0
  have f40 := o7_11.wr W27
  have K41 := K23.wr W27 (Or.inr sz_n1_7)
  have N43 := Fr.snoc X27 N8 gq7_0
  obtain ⟨T44, X44, e44, st44⟩ := getF X27 hx hZ hown (host := "") (Or.inl (own_w hw (i := 13) rfl)) Via.refl e27 f31 (g := (mkF m 38 #[uR a1, uL q2, uS, uL q3, uS, uL q4, uS] [(.ref a1)])) rfl rfl (hb hby d14_38)
  obtain ⟨T45, X45, e45, st45⟩ := getF X44 hx hZ hown (host := "") (Or.inl (own_w hw (i := 27) rfl)) Via.refl e44 f33 (g := (mkF m 42 #[uR a1, uL q2, uS, uL q3, uS, uL q4, uS] [(.ref a1), (.ref n2_7)])) rfl rfl (hb hby d14_42)
  obtain ⟨car46, Aar46, qar46, Sar46, Nar46, Har46, Gar46⟩ := id f37
  have hinar46 : ¬ ((0 : Int32) < 0 ∨ car46.slots.size ≤ ((0 : Int32)).toNatClampNeg) := inb_of Sar46 ⟨by decide, by decide⟩
  obtain ⟨T47, h47, X47, e47, W47, st47⟩ := stJ X45 hx hZ e45 Aar46 (j := (0 : Int32)) hinar46 (g := (mkF m 46 #[uR a1, uL q2, uS, uL q3, uS, uL q4, uS] [(.long q3), (.int 0), (.ref n2_7)])) rfl rfl (hb hby d14_46)
  have V47 : Arv Z h47 n2_7 kn2_7 .long (8 : Int32) [(.long q3), (.long 0), (.long 0), (.long 0), (.long 0), (.long 0), (.long 0), (.long 0)] (.long 0) := Arv.set Aar46 qar46 Sar46 Nar46 Har46 Gar46 rfl W47 0 rfl (Nat.le_of_ble_eq_true rfl)
  have f48 := f28.wr W47
  have f50 := f30.other W47 (Or.inl ne11)
  have f51 := f31.other W47 (Or.inl ne11)
  have f52 := f32.other W47 (Or.inl ne11)
  have f53 := f33.other W47 (Or.inl ne11)
  have f54 := f34.other W47 (Or.inl ne11)
  have f55 := f36.wr W47
  have f57 := f38.wr W47
  have f58 := f39.other W47 nq7_2_1
  have f59 := f40.wr W47
  have f60 := V27.other W47 (Ne.symm nq7_1_0)
  have K61 := K41.wr W47 (Or.inr sz_n2_7)
  have N63 := Fr.snoc X47 N43 gq7_1
  obtain ⟨T64, X64, e64, st64⟩ := getF X47 hx hZ hown (host := "") (Or.inl (own_w hw (i := 15) rfl)) Via.refl e47 f52 (g := (mkF m 48 #[uR a1, uL q2, uS, uL q3, uS, uL q4, uS] [(.ref a1)])) rfl rfl (hb hby d14_48)
  obtain ⟨T65, X65, e65, st65⟩ := getF X64 hx hZ hown (host := "") (Or.inl (own_w hw (i := 27) rfl)) Via.refl e64 f53 (g := (mkF m 52 #[uR a1, uL q2, uS, uL q3, uS, uL q4, uS] [(.ref a1), (.ref n3_7)])) rfl rfl (hb hby d14_52)
  obtain ⟨T66, X66, e66, st66⟩ := getF X65 hx hZ hown (host := "") (Or.inl (own_w hw (i := 27) rfl)) Via.refl e65 f53 (g := (mkF m 56 #[uR a1, uL q2, uS, uL q3, uS, uL q4, uS] [(.ref a1), (.int 0), (.ref n3_7)])) rfl rfl (hb hby d14_56)
  obtain ⟨car67, Aar67, qar67, Sar67, Nar67, Har67, Gar67⟩ := id f58
  have hinar67 : ¬ ((0 : Int32) < 0 ∨ car67.slots.size ≤ ((0 : Int32)).toNatClampNeg) := inb_of Sar67 ⟨by decide, by decide⟩
  obtain ⟨T68, h68, X68, e68, W68, st68⟩ := stJ X66 hx hZ e66 Aar67 (j := (0 : Int32)) hinar67 (g := (mkF m 83 #[uR a1, uL q2, uS, uL q3, uS, uL q4, uS] [(.long q4), (.int 0), (.ref n3_7)])) rfl rfl (hb hby d14_83)
  have V68 : Arv Z h68 n3_7 kn3_7 .long (8 : Int32) [(.long q4), (.long 0), (.long 0), (.long 0), (.long 0), (.long 0), (.long 0), (.long 0)] (.long 0) := Arv.set Aar67 qar67 Sar67 Nar67 Har67 Gar67 rfl W68 0 rfl (Nat.le_of_ble_eq_true rfl)
  have f69 := f48.wr W68
  have f71 := f50.other W68 (Or.inl ne13)
  have f72 := f51.other W68 (Or.inl ne13)
  have f73 := f52.other W68 (Or.inl ne13)
  have f74 := f53.other W68 (Or.inl ne13)
  have f75 := f54.other W68 (Or.inl ne13)
  have f76 := f55.wr W68
  have f77 := f57.wr W68
  have f79 := f59.wr W68
  have f80 := f60.other W68 (Ne.symm nq7_2_0)
  have f81 := V47.other W68 (Ne.symm nq7_2_1)
  have K82 := K61.wr W68 (Or.inr sz_n3_7)
  have N84 := Fr.snoc X68 N63 gq7_2
  obtain ⟨T85, X85, e85, st85⟩ := getF X68 hx hZ hown (host := "") (Or.inl (own_w hw (i := 27) rfl)) Via.refl e68 f74 (g := (mkF m 86 #[uR a1, uL q2, uS, uL q3, uS, uL q4, uS] [(.ref a1), (.ref a1)])) rfl rfl (hb hby d14_86)
  obtain ⟨T86, h86, X86, e86, W86, st86⟩ := putF X85 hx hZ hown (host := "") (Or.inl (own_w hw (i := 27) rfl)) Via.refl e85 f74 f69 (Or.inl (own_w hw (i := 28) rfl)) (own_w hw (i := 1) rfl) (ty := .int) (by decide) rfl rfl (g := (mkF m 91 #[uR a1, uL q2, uS, uL q3, uS, uL q4, uS] [(.int 1), (.ref a1)])) rfl rfl (hb hby d14_91)
  have f87 := f69.wr W86
  have f89 := f71.other W86 (Or.inr (sn_143 hw))
  have f90 := f72.other W86 (Or.inr (sn_144 hw))
  have f91 := f73.other W86 (Or.inr (sn_145 hw))
  have f92 := f74.same W86
  have f93 := f75.other W86 (Or.inr (sn_146 hw))
  have f94 := f76.wr W86
  have f95 := f77.wr W86
  have f96 := f79.wr W86
  have f97 := f80.other W86 (Ne.symm ne9)
  have f98 := f81.other W86 (Ne.symm ne11)
  have f99 := V68.other W86 (Ne.symm ne13)
  have K100 := K82.wr W86 (Or.inl (List.mem_of_getElem? (i := 0) rfl))
  have N102 := Fr.snoc X86 N84 g_a1
  obtain ⟨fs, hr, hrun, hended, hW, hsame⟩ := X86.leave (v := none) (fun _ => rfl) Bd.notSynchronized
  refine ⟨_, _, pre0 _ ?_, hrun, hended, _, _, rfl, ?_, ⟨_, rfl⟩, hW, hsame.mono (by decide) (by decide)⟩
  · show Steps p.tables e below (s₁.setTop (mkF m 0 #[uR a1, uL q2, uS, uL q3, uS, uL q4, uS] [])) _
    refine XS.aloadN X0.here hx rfl (hb hby d14_0) rfl rfl ?_
    refine st1 _ ?_
    refine XS.aloadN X1.here hx rfl (hb hby d14_4) rfl rfl ?_
    refine st2 _ ?_
    refine X2.arraylength hx (by rw [e2]; exact Aar3.1) (State.isArrayOf_alike hZ.alike Aar3.2.1) (g := (mkF m 8 #[uR a1, uL q2, uS, uL q3, uS, uL q4, uS] [(.ref w), (.int 0)])) rfl rfl (hb hby d14_8) _ ?_
    rw [len_of Sar3 Nar3]
    show Steps p.tables e below (T2.setTop (mkF m 9 #[uR a1, uL q2, uS, uL q3, uS, uL q4, uS] [(.int 0), (.int 0)])) _
    refine XS.icmpNo X2.here hx rfl (hb hby d14_9) rfl (teq (by decide : (0 : Int32) = (0 : Int32))).2 ?_
    refine XS.aloadN X2.here hx rfl (hb hby d14_12) rfl rfl ?_
    refine XS.aloadN X2.here hx rfl (hb hby d14_13) rfl rfl ?_
    refine st4 _ ?_
    refine XS.iconst X4.here hx rfl (hb hby d14_17) ?_
    refine XS.imul X4.here hx rfl (hb hby d14_18) rfl ?_
    refine XS.bipush X4.here hx rfl (hb hby d14_19) ?_
    refine st5 _ ?_
    refine st7.trans ?_
    refine XS.aloadN X7.here hx rfl (hb hby d14_27) rfl rfl ?_
    refine st24 _ ?_
    show Steps p.tables e below (T24.setTop (mkF m 31 #[uR a1, uL q2, uS, uL q3, uS, uL q4, uS] [(.ref n1_7)])) _
    refine XS.aloadN X24.here hx rfl (hb hby d14_31) rfl rfl ?_
    refine st25 _ ?_
    refine XS.lloadN X25.here hx rfl (hb hby d14_35) rfl ?_
    refine st27 _ ?_
    refine XS.aloadN X27.here hx rfl (hb hby d14_37) rfl rfl ?_
    refine st44 _ ?_
    refine XS.aloadN X44.here hx rfl (hb hby d14_41) rfl rfl ?_
    refine st45 _ ?_
    refine XS.lloadN X45.here hx rfl (hb hby d14_45) rfl ?_
    refine st47 _ ?_
    refine XS.aloadN X47.here hx rfl (hb hby d14_47) rfl rfl ?_
    refine st64 _ ?_
    refine XS.aloadN X64.here hx rfl (hb hby d14_51) rfl rfl ?_
    refine st65 _ ?_
    refine XS.aloadN X65.here hx rfl (hb hby d14_55) rfl rfl ?_
    refine st66 _ ?_
    show Steps p.tables e below (T66.setTop (mkF m 59 #[uR a1, uL q2, uS, uL q3, uS, uL q4, uS] [(.int 0), (.int 0), (.ref n3_7)])) _
    refine XS.ifNo X66.here hx rfl (hb hby d14_59) rfl ((if0 _ _).trans (teq (by decide : (0 : Int32) = (0 : Int32))).2) ?_
    refine XS.lload X66.here hx rfl (hb hby d14_62) rfl ?_
    refine XS.goto X66.here hx rfl (pc0 := 64) (pc' := 83) rfl (hb hby d14_64) (by decide) (by decide) ?_
    refine st68 _ ?_
    refine XS.aloadN X68.here hx rfl (hb hby d14_84) rfl rfl ?_
    refine XS.dup X68.here hx rfl (hb hby d14_85) rfl rfl ?_
    refine st85 _ ?_
    refine XS.iconst X85.here hx rfl (hb hby d14_89) ?_
    refine XS.iadd X85.here hx rfl (hb hby d14_90) rfl ?_
    refine st86 _ ?_
    exact X86.returnOut hx Bd.returns (hb hby d14_94) hr
  · show Qad0 Z a1 q2 q3 q4 w kw fz h0 n0 _ T86.heap _
    rw [e86]
    exact ⟨n1_7, kn1_7, n2_7, kn2_7, n3_7, kn3_7, rfl, N102, K100, gq7_0, gq7_1, gq7_2, sz_n1_7, sz_n2_7, sz_n3_7, nq7_1_0, nq7_2_0, nq7_2_1, f87, f89, f90, f91, f92, f93, f97, f94, f98, f95, f99, f96⟩
theorem d14_67 : decode prog_126_method_2_code 67 = .ok (.lload 5, 2) := by decide +kernel
theorem d14_69 : decode prog_126_method_2_code 69 = .ok (.aload_n 0, 1) := by decide +kernel
theorem d14_70 : decode prog_126_method_2_code 70 = .ok (.getfield 19, 3) := by decide +kernel
theorem d14_73 : decode prog_126_method_2_code 73 = .ok (.aload_n 0, 1) := by decide +kernel
theorem d14_74 : decode prog_126_method_2_code 74 = .ok (.getfield 22, 3) := by decide +kernel
theorem d14_77 : decode prog_126_method_2_code 77 = .ok (.iconst 1, 1) := by decide +kernel
theorem d14_78 : decode prog_126_method_2_code 78 = .ok (.isub, 1) := by decide +kernel
theorem d14_79 : decode prog_126_method_2_code 79 = .ok (.laload, 1) := by decide +kernel
theorem d14_80 : decode prog_126_method_2_code 80 = .ok (.invokestatic 36, 3) := by decide +kernel
theorem pd_157 : parseMethodDescriptor "(JJ)J" = some ⟨[.long, .long], some .long⟩ := by decide +kernel
theorem ef_ad1 (m : MethodId) (x0 : Addr) (x1 : Int64) (x2 : Int64) (x3 : Int64) : entryFrame m #[(.ref x0), (.long x1), (.long x2), (.long x3)] 7 = mkF m 0 #[.val (.ref x0), .val (.long x1), .second, .val (.long x2), .second, .val (.long x3), .second] [] := by first | (simp [entryFrame, mkF, argsToLocals, Value.category]; done) | rfl
abbrev R_ad1 : Room := { frames := 1, cells := 0, slots := 0, locals := 17 }
def Qad1 (Z : State) (a1 : Addr) (q2 : Int64) (q3 : Int64) (q4 : Int64) (aB : Addr) (aP : Addr) (aM : Addr) (kB : ClassId) (kP : ClassId) (kM : ClassId) (fz : Int64) (b0 : Int64) (b1 : Int64) (b2 : Int64) (b3 : Int64) (b4 : Int64) (b5 : Int64) (b6 : Int64) (b7 : Int64) (c0 : Int64) (c1 : Int64) (c2 : Int64) (c3 : Int64) (c4 : Int64) (c5 : Int64) (c6 : Int64) (c7 : Int64) (x0 : Int64) (x1 : Int64) (x2 : Int64) (x3 : Int64) (x4 : Int64) (x5 : Int64) (x6 : Int64) (x7 : Int64) (h0 : Heap) (n0 : Nat) (v : Option Value) (h : Heap) (L : List Loc) : Prop := v = none ∧ Fr n0 L ∧ Keep h0 h [a1, aB, aP, aM] ∧ Exa Z h a1 KC ∧ Fld Z h a1 KC KB "[J" (.ref aB) ∧ Fld Z h a1 KC KP "[J" (.ref aP) ∧ Fld Z h a1 KC KM "[J" (.ref aM) ∧ Fld Z h a1 KC "count" "I" (.int 2) ∧ Fld Z h a1 KC "first" "J" (.long fz) ∧ Arv Z h aB kB .long (8 : Int32) [(.long b0), (.long q2), (.long b2), (.long b3), (.long b4), (.long b5), (.long b6), (.long b7)] (.long 0) ∧ Arv Z h aP kP .long (8 : Int32) [(.long c0), (.long q3), (.long c2), (.long c3), (.long c4), (.long c5), (.long c6), (.long c7)] (.long 0) ∧ Arv Z h aM kM .long (8 : Int32) [(.long x0), (.long (fmj q4 x0)), (.long x2), (.long x3), (.long x4), (.long x5), (.long x6), (.long x7)] (.long 0)
set_option maxRecDepth 65536 in
set_option maxHeartbeats 40000000 in
theorem rmad1 (l : Launch) (Z : State) (a0 : Array Value) (hw : ∀ d ∈ tables_1, d.before a0 Z = true) (ws : List Jvm.Cond) (a1 : Addr) (q2 : Int64) (q3 : Int64) (q4 : Int64) (aB : Addr) (aP : Addr) (aM : Addr) (kB : ClassId) (kP : ClassId) (kM : ClassId) (fz : Int64) (b0 : Int64) (b1 : Int64) (b2 : Int64) (b3 : Int64) (b4 : Int64) (b5 : Int64) (b6 : Int64) (b7 : Int64) (c0 : Int64) (c1 : Int64) (c2 : Int64) (c3 : Int64) (c4 : Int64) (c5 : Int64) (c6 : Int64) (c7 : Int64) (x0 : Int64) (x1 : Int64) (x2 : Int64) (x3 : Int64) (x4 : Int64) (x5 : Int64) (x6 : Int64) (x7 : Int64) (h0 : Heap) (n0 : Nat) (Z0 : n0 ≤ h0.size) (E_a1 : Exa Z h0 a1 KC) (F_baseOffsets_a1 : Fld Z h0 a1 KC KB "[J" (.ref aB)) (F_positions_a1 : Fld Z h0 a1 KC KP "[J" (.ref aP)) (F_maxTimestampsSoFar_a1 : Fld Z h0 a1 KC KM "[J" (.ref aM)) (F_count_a1 : Fld Z h0 a1 KC "count" "I" (.int 1)) (F_first_a1 : Fld Z h0 a1 KC "first" "J" (.long fz)) (V_aB : Arv Z h0 aB kB .long (8 : Int32) [(.long b0), (.long b1), (.long b2), (.long b3), (.long b4), (.long b5), (.long b6), (.long b7)] (.long 0)) (V_aP : Arv Z h0 aP kP .long (8 : Int32) [(.long c0), (.long c1), (.long c2), (.long c3), (.long c4), (.long c5), (.long c6), (.long c7)] (.long 0)) (V_aM : Arv Z h0 aM kM .long (8 : Int32) [(.long x0), (.long x1), (.long x2), (.long x3), (.long x4), (.long x5), (.long x6), (.long x7)] (.long 0)) (g_a1 : n0 ≤ a1) (g_aB : n0 ≤ aB) (g_aP : n0 ≤ aP) (g_aM : n0 ≤ aM) (ne_a1_aB : a1 ≠ aB) (ne_a1_aP : a1 ≠ aP) (ne_a1_aM : a1 ≠ aM) (ne_aB_aP : aB ≠ aP) (ne_aB_aM : aB ≠ aM) (ne_aP_aM : aP ≠ aM) :
    MetFree l (⟨KC, "add", "(JJJ)V"⟩ : MethodName) (head1 (Jvm.Cond.code (⟨KC, "add", "(JJJ)V"⟩ : MethodName) prog_126_method_2_code 7 none :: ws) R_ad1) (fun a U => a = #[(.ref a1), (.long q2), (.long q3), (.long q4)] ∧ Z.Warmed39 U.vm ∧ U.heap = h0) (fun _ _ _ _ _ => True) (fun _ U o U' => ∃ v L, o = .returned v ∧ Qad1 Z a1 q2 q3 q4 aB aP aM kB kP kM fz b0 b1 b2 b3 b4 b5 b6 b7 c0 c1 c2 c3 c4 c5 c6 c7 x0 x1 x2 x3 x4 x5 x6 x7 h0 n0 v U'.heap L ∧ FrameEnd U o U' L R_ad1.cells R_ad1.slots) := by
  refine MetFree.of_bodySF (plainFor_of_name pn_55) hisR ?_
  intro p e s m args below meth c s₁ Bd hml0 hP hK
  obtain ⟨rfl, hZ, hh⟩ := hP
  have hx := Bd.exec
  have hby := Bd.bytes
  have hml : c.maxLocals = 7 := hml0
  have hown : s.vm.findClass KC = some m.cls := findClass_of_methodNamed Bd.named
  have hnm := (name_of_methodNamed Bd.named Bd.method).1
  have X0 : Stand p l e R_ad1 s m #[(.ref a1), (.long q2), (.long q3), (.long q4)] below meth c s₁ [] 0 0 := Stand.of_body Bd
  have e0 : s₁.heap = h0 := by rw [← hh, Bd.state]; rfl
  have N0 := Fr.nil n0
  have pre0 : ∀ t, Steps p.tables e below (s₁.setTop (mkF m 0 #[uR a1, uL q2, uS, uL q3, uS, uL q4, uS] [])) t → Steps p.tables e below (s₁.setTop (entryFrame m #[(.ref a1), (.long q2), (.long q3), (.long q4)] 7)) t := fun t k => castTop (ef_ad1 m a1 q2 q3 q4) k
  obtain ⟨T1, X1, e1, st1⟩ := getF X0 hx hZ hown (host := "") (Or.inl (own_w hw (i := 27) rfl)) Via.refl e0 F_count_a1 (g := (mkF m 1 #[uR a1, uL q2, uS, uL q3, uS, uL q4, uS] [(.ref a1)])) rfl rfl (hb hby d14_1)
  obtain ⟨T2, X2, e2, st2⟩ := getF X1 hx hZ hown (host := "") (Or.inl (own_w hw (i := 11) rfl)) Via.refl e1 F_baseOffsets_a1 (g := (mkF m 5 #[uR a1, uL q2, uS, uL q3, uS, uL q4, uS] [(.ref a1), (.int 1)])) rfl rfl (hb hby d14_5)
  obtain ⟨car3, Aar3, qar3, Sar3, Nar3, Har3, Gar3⟩ := id V_aB
  obtain ⟨T4, X4, e4, st4⟩ := getF X2 hx hZ hown (host := "") (Or.inl (own_w hw (i := 11) rfl)) Via.refl e2 F_baseOffsets_a1 (g := (mkF m 28 #[uR a1, uL q2, uS, uL q3, uS, uL q4, uS] [(.ref a1)])) rfl rfl (hb hby d14_28)
  obtain ⟨T5, X5, e5, st5⟩ := getF X4 hx hZ hown (host := "") (Or.inl (own_w hw (i := 27) rfl)) Via.refl e4 F_count_a1 (g := (mkF m 32 #[uR a1, uL q2, uS, uL q3, uS, uL q4, uS] [(.ref a1), (.ref aB)])) rfl rfl (hb hby d14_32)
  obtain ⟨car6, Aar6, qar6, Sar6, Nar6, Har6, Gar6⟩ := id V_aB
  have hinar6 : ¬ ((1 : Int32) < 0 ∨ car6.slots.size ≤ ((1 : Int32)).toNatClampNeg) := inb_of Sar6 ⟨by decide, by decide⟩
  obtain ⟨T7, h7, X7, e7, W7, st7⟩ := stJ X5 hx hZ e5 Aar6 (j := (1 : Int32)) hinar6 (g := (mkF m 36 #[uR a1, uL q2, uS, uL q3, uS, uL q4, uS] [(.long q2), (.int 1), (.ref aB)])) rfl rfl (hb hby d14_36)
  have V7 : Arv Z h7 aB kB .long (8 : Int32) [(.long b0), (.long q2), (.long b2), (.long b3), (.long b4), (.long b5), (.long b6), (.long b7)] (.long 0) := Arv.set Aar6 qar6 Sar6 Nar6 Har6 Gar6 rfl W7 1 rfl (Nat.le_of_ble_eq_true rfl)
  have f8 := E_a1.wr W7
  have f9 := F_baseOffsets_a1.other W7 (Or.inl ne_a1_aB)
  have f10 := F_positions_a1.other W7 (Or.inl ne_a1_aB)
  have f11 := F_maxTimestampsSoFar_a1.other W7 (Or.inl ne_a1_aB)
  have f12 := F_count_a1.other W7 (Or.inl ne_a1_aB)
  have f13 := F_first_a1.other W7 (Or.inl ne_a1_aB)
  have f15 := V_aP.other W7 (Ne.symm ne_aB_aP)
  have f16 := V_aM.other W7 (Ne.symm ne_aB_aM)
  have K17 := (Keep.refl h0 [a1, aB, aP, aM]).wr W7 (Or.inl (List.mem_of_getElem? (i := 1) rfl))
  have zs18 : n0 ≤ h7.size := Nat.le_trans Z0 (Keep.of_wr W7).1
  have N19 := Fr.snoc X7 N0 g_aB
  obtain ⟨T20, X20, e20, st20⟩ := getF X7 hx hZ hown (host := "") (Or.inl (own_w hw (i := 13) rfl)) Via.refl e7 f10 (g := (mkF m 38 #[uR a1, uL q2, uS, uL q3, uS, uL q4, uS] [(.ref a1)])) rfl rfl (hb hby d14_38)
  obtain ⟨T21, X21, e21, st21⟩ := getF X20 hx hZ hown (host := "") (Or.inl (own_w hw (i := 27) rfl)) Via.refl e20 f12 (g := (mkF m 42 #[uR a1, uL q2, uS, uL q3, uS, uL q4, uS] [(.ref a1), (.ref aP)])) rfl rfl (hb hby d14_42)
  obtain ⟨car22, Aar22, qar22, Sar22, Nar22, Har22, Gar22⟩ := id f15
  have hinar22 : ¬ ((1 : Int32) < 0 ∨ car22.slots.size ≤ ((1 : Int32)).toNatClampNeg) := inb_of Sar22 ⟨by decide, by decide⟩
  obtain ⟨T23, h23, X23, e23, W23, st23⟩ := stJ X21 hx hZ e21 Aar22 (j := (1 : Int32)) hinar22 (g := (mkF m 46 #[uR a1, uL q2, uS, uL q3, uS, uL q4, uS] [(.long q3), (.int 1), (.ref aP)])) rfl rfl (hb hby d14_46)
  have V23 : Arv Z h23 aP kP .long (8 : Int32) [(.long c0), (.long q3), (.long c2), (.long c3), (.long c4), (.long c5), (.long c6), (.long c7)] (.long 0) := Arv.set Aar22 qar22 Sar22 Nar22 Har22 Gar22 rfl W23 1 rfl (Nat.le_of_ble_eq_true rfl)
  have f24 := f8.wr W23
  have f25 := f9.other W23 (Or.inl ne_a1_aP)
  have f26 := f10.other W23 (Or.inl ne_a1_aP)
  have f27 := f11.other W23 (Or.inl ne_a1_aP)
  have f28 := f12.other W23 (Or.inl ne_a1_aP)
  have f29 := f13.other W23 (Or.inl ne_a1_aP)
  have f31 := f16.other W23 (Ne.symm ne_aP_aM)
  have f32 := V7.other W23 ne_aB_aP
  have K33 := K17.wr W23 (Or.inl (List.mem_of_getElem? (i := 2) rfl))
  have zs34 : n0 ≤ h23.size := Nat.le_trans zs18 (Keep.of_wr W23).1
  have N35 := Fr.snoc X23 N19 g_aP
  obtain ⟨T36, X36, e36, st36⟩ := getF X23 hx hZ hown (host := "") (Or.inl (own_w hw (i := 15) rfl)) Via.refl e23 f27 (g := (mkF m 48 #[uR a1, uL q2, uS, uL q3, uS, uL q4, uS] [(.ref a1)])) rfl rfl (hb hby d14_48)
  obtain ⟨T37, X37, e37, st37⟩ := getF X36 hx hZ hown (host := "") (Or.inl (own_w hw (i := 27) rfl)) Via.refl e36 f28 (g := (mkF m 52 #[uR a1, uL q2, uS, uL q3, uS, uL q4, uS] [(.ref a1), (.ref aM)])) rfl rfl (hb hby d14_52)
  obtain ⟨T38, X38, e38, st38⟩ := getF X37 hx hZ hown (host := "") (Or.inl (own_w hw (i := 27) rfl)) Via.refl e37 f28 (g := (mkF m 56 #[uR a1, uL q2, uS, uL q3, uS, uL q4, uS] [(.ref a1), (.int 1), (.ref aM)])) rfl rfl (hb hby d14_56)
  obtain ⟨T39, X39, e39, st39⟩ := getF X38 hx hZ hown (host := "") (Or.inl (own_w hw (i := 15) rfl)) Via.refl e38 f27 (g := (mkF m 70 #[uR a1, uL q2, uS, uL q3, uS, uL q4, uS] [(.ref a1), (.long q4), (.int 1), (.ref aM)])) rfl rfl (hb hby d14_70)
  obtain ⟨T40, X40, e40, st40⟩ := getF X39 hx hZ hown (host := "") (Or.inl (own_w hw (i := 27) rfl)) Via.refl e39 f28 (g := (mkF m 74 #[uR a1, uL q2, uS, uL q3, uS, uL q4, uS] [(.ref a1), (.ref aM), (.long q4), (.int 1), (.ref aM)])) rfl rfl (hb hby d14_74)
  obtain ⟨car41, Aar41, qar41, Sar41, Nar41, Har41, Gar41⟩ := id f31
  have hinar41 : ¬ ((0 : Int32) < 0 ∨ car41.slots.size ≤ ((0 : Int32)).toNatClampNeg) := inb_of Sar41 ⟨by decide, by decide⟩
  have hatar41 : car41.slots[((0 : Int32)).toNatClampNeg]? = some (.long x0) := Har41.at hinar41 rfl
  -- pc 80: Math.max by rmmj
  obtain ⟨_, _, ⟨T42, L42, ck42, cn42⟩, -, X42, ⟨Lc42, hQ42, l42, y42, z42⟩, st42⟩ := Jvm.LawKit.callS X40 hx (y := (⟨"java/lang/Math", "max", "(JJ)J"⟩ : MethodName)) hown (mvT hZ (own_w hw (i := 77) rfl)) (mvT hZ (own_w hw (i := 63) rfl)) (mvT hZ (own_w hw (i := 47) rfl)) (mvT hZ (own_w hw (i := 64) rfl)) (by decide) (backOf (W := 2) (rmmj l Z a0 hw [] q4 x0 h23 n0 zs34 ) hZ (own_w hw (i := 64) rfl) (own_w hw (i := 47) rfl) (by decide) (by decide)) (g := (mkF m 80 #[uR a1, uL q2, uS, uL q3, uS, uL q4, uS] [(.long x0), (.long q4), (.int 1), (.ref aM)])) rfl (by rw [hml]; rfl) (argsL := [(.long q4), (.long x0)]) (rest := [(.int 1), (.ref aM)]) (lenOf pd_157 rfl) rfl (by show 2 * 0 + _ ≤ _; exact Nat.le_of_eq rfl) (hb hby d14_80) (fun _ _ => ⟨rfl, e40, (by decide : 0 + 0 ≤ _), (by decide : 0 + 0 ≤ _)⟩)
  dsimp only [Pt.U, Pt.locs, Pt.cells, Pt.slots] at X42 l42 y42 z42 st42 hQ42
  subst y42 z42
  obtain ⟨rfl, N42q, e42⟩ := hQ42
  have N43 : Fr n0 L42 := by rw [l42]; exact Fr.app N35 N42q
  obtain ⟨car44, Aar44, qar44, Sar44, Nar44, Har44, Gar44⟩ := id f31
  have hinar44 : ¬ ((1 : Int32) < 0 ∨ car44.slots.size ≤ ((1 : Int32)).toNatClampNeg) := inb_of Sar44 ⟨by decide, by decide⟩
  obtain ⟨T45, h45, X45, e45, W45, st45⟩ := stJ X42 hx hZ e42 Aar44 (j := (1 : Int32)) hinar44 (g := (mkF m 83 #[uR a1, uL q2, uS, uL q3, uS, uL q4, uS] [(.long (fmj q4 x0)), (.int 1), (.ref aM)])) rfl rfl (hb hby d14_83)
  have V45 : Arv Z h45 aM kM .long (8 : Int32) [(.long x0), (.long (fmj q4 x0)), (.long x2), (.long x3), (.long x4), (.long x5), (.long x6), (.long x7)] (.long 0) := Arv.set Aar44 qar44 Sar44 Nar44 Har44 Gar44 rfl W45 1 rfl (Nat.le_of_ble_eq_true rfl)
  have f46 := f24.wr W45
  have f47 := f25.other W45 (Or.inl ne_a1_aM)
  have f48 := f26.other W45 (Or.inl ne_a1_aM)
  have f49 := f27.other W45 (Or.inl ne_a1_aM)
  have f50 := f28.other W45 (Or.inl ne_a1_aM)
  have f51 := f29.other W45 (Or.inl ne_a1_aM)
  have f53 := f32.other W45 ne_aB_aM
  have f54 := V23.other W45 ne_aP_aM
  have K55 := K33.wr W45 (Or.inl (List.mem_of_getElem? (i := 3) rfl))
  have N57 := Fr.snoc X45 N43 g_aM
  obtain ⟨T58, X58, e58, st58⟩ := getF X45 hx hZ hown (host := "") (Or.inl (own_w hw (i := 27) rfl)) Via.refl e45 f50 (g := (mkF m 86 #[uR a1, uL q2, uS, uL q3, uS, uL q4, uS] [(.ref a1), (.ref a1)])) rfl rfl (hb hby d14_86)
  obtain ⟨T59, h59, X59, e59, W59, st59⟩ := putF X58 hx hZ hown (host := "") (Or.inl (own_w hw (i := 27) rfl)) Via.refl e58 f50 f46 (Or.inl (own_w hw (i := 28) rfl)) (own_w hw (i := 1) rfl) (ty := .int) (by decide) rfl rfl (g := (mkF m 91 #[uR a1, uL q2, uS, uL q3, uS, uL q4, uS] [(.int 2), (.ref a1)])) rfl rfl (hb hby d14_91)
  have f60 := f46.wr W59
  have f61 := f47.other W59 (Or.inr (sn_143 hw))
  have f62 := f48.other W59 (Or.inr (sn_144 hw))
  have f63 := f49.other W59 (Or.inr (sn_145 hw))
  have f64 := f50.same W59
  have f65 := f51.other W59 (Or.inr (sn_146 hw))
  have f66 := f53.other W59 (Ne.symm ne_a1_aB)
  have f67 := f54.other W59 (Ne.symm ne_a1_aP)
  have f68 := V45.other W59 (Ne.symm ne_a1_aM)
  have K69 := K55.wr W59 (Or.inl (List.mem_of_getElem? (i := 0) rfl))
  have N71 := Fr.snoc X59 N57 g_a1
  obtain ⟨fs, hr, hrun, hended, hW, hsame⟩ := X59.leave (v := none) (fun _ => rfl) Bd.notSynchronized
  refine ⟨_, _, pre0 _ ?_, hrun, hended, _, _, rfl, ?_, ⟨_, rfl⟩, hW, hsame.mono (by decide) (by decide)⟩
  · show Steps p.tables e below (s₁.setTop (mkF m 0 #[uR a1, uL q2, uS, uL q3, uS, uL q4, uS] [])) _
    refine XS.aloadN X0.here hx rfl (hb hby d14_0) rfl rfl ?_
    refine st1 _ ?_
    refine XS.aloadN X1.here hx rfl (hb hby d14_4) rfl rfl ?_
    refine st2 _ ?_
    refine X2.arraylength hx (by rw [e2]; exact Aar3.1) (State.isArrayOf_alike hZ.alike Aar3.2.1) (g := (mkF m 8 #[uR a1, uL q2, uS, uL q3, uS, uL q4, uS] [(.ref aB), (.int 1)])) rfl rfl (hb hby d14_8) _ ?_
    rw [len_of Sar3 Nar3]
    show Steps p.tables e below (T2.setTop (mkF m 9 #[uR a1, uL q2, uS, uL q3, uS, uL q4, uS] [(.int 8), (.int 1)])) _
    refine XS.icmpYes X2.here hx rfl (pc0 := 9) (pc' := 27) rfl (hb hby d14_9) rfl (feq (by decide : ¬ ((1 : Int32) = (8 : Int32)))).2 (by decide) (by decide) ?_
    refine XS.aloadN X2.here hx rfl (hb hby d14_27) rfl rfl ?_
    refine st4 _ ?_
    refine XS.aloadN X4.here hx rfl (hb hby d14_31) rfl rfl ?_
    refine st5 _ ?_
    refine XS.lloadN X5.here hx rfl (hb hby d14_35) rfl ?_
    refine st7 _ ?_
    refine XS.aloadN X7.here hx rfl (hb hby d14_37) rfl rfl ?_
    refine st20 _ ?_
    refine XS.aloadN X20.here hx rfl (hb hby d14_41) rfl rfl ?_
    refine st21 _ ?_
    show Steps p.tables e below (T21.setTop (mkF m 45 #[uR a1, uL q2, uS, uL q3, uS, uL q4, uS] [(.int 1), (.ref aP)])) _
    refine XS.lloadN X21.here hx rfl (hb hby d14_45) rfl ?_
    refine st23 _ ?_
    refine XS.aloadN X23.here hx rfl (hb hby d14_47) rfl rfl ?_
    refine st36 _ ?_
    refine XS.aloadN X36.here hx rfl (hb hby d14_51) rfl rfl ?_
    refine st37 _ ?_
    refine XS.aloadN X37.here hx rfl (hb hby d14_55) rfl rfl ?_
    refine st38 _ ?_
    show Steps p.tables e below (T38.setTop (mkF m 59 #[uR a1, uL q2, uS, uL q3, uS, uL q4, uS] [(.int 1), (.int 1), (.ref aM)])) _
    refine XS.ifYes X38.here hx rfl (pc0 := 59) (pc' := 67) rfl (hb hby d14_59) rfl ((if0 _ _).trans (feq (by decide : ¬ ((1 : Int32) = (0 : Int32)))).2) (by decide) (by decide) ?_
    refine XS.lload X38.here hx rfl (hb hby d14_67) rfl ?_
    refine XS.aloadN X38.here hx rfl (hb hby d14_69) rfl rfl ?_
    refine st39 _ ?_
    refine XS.aloadN X39.here hx rfl (hb hby d14_73) rfl rfl ?_
    refine st40 _ ?_
    refine XS.iconst X40.here hx rfl (hb hby d14_77) ?_
    refine XS.isub X40.here hx rfl (hb hby d14_78) rfl ?_
    show Steps p.tables e below (T40.setTop (mkF m 79 #[uR a1, uL q2, uS, uL q3, uS, uL q4, uS] [(.int 0), (.ref aM), (.long q4), (.int 1), (.ref aM)])) _
    refine X40.laload hx (j := (0 : Int32)) (v := (.long x0)) (by rw [e40]; exact Aar41.1) (State.isArrayOf_alike hZ.alike Aar41.2.1) Aar41.2.2 hinar41 hatar41 (g := (mkF m 79 #[uR a1, uL q2, uS, uL q3, uS, uL q4, uS] [(.int 0), (.ref aM), (.long q4), (.int 1), (.ref aM)])) rfl rfl (hb hby d14_79) _ ?_
    refine st42 _ ?_
    refine st45 _ ?_
    refine XS.aloadN X45.here hx rfl (hb hby d14_84) rfl rfl ?_
    refine XS.dup X45.here hx rfl (hb hby d14_85) rfl rfl ?_
    refine st58 _ ?_
    refine XS.iconst X58.here hx rfl (hb hby d14_89) ?_
    refine XS.iadd X58.here hx rfl (hb hby d14_90) rfl ?_
    refine st59 _ ?_
    exact X59.returnOut hx Bd.returns (hb hby d14_94) hr
  · show Qad1 Z a1 q2 q3 q4 aB aP aM kB kP kM fz b0 b1 b2 b3 b4 b5 b6 b7 c0 c1 c2 c3 c4 c5 c6 c7 x0 x1 x2 x3 x4 x5 x6 x7 h0 n0 _ T59.heap _
    rw [e59]
    exact ⟨rfl, N71, K69, f60, f61, f62, f63, f64, f65, f66, f67, f68⟩
theorem ef_ad2 (m : MethodId) (x0 : Addr) (x1 : Int64) (x2 : Int64) (x3 : Int64) : entryFrame m #[(.ref x0), (.long x1), (.long x2), (.long x3)] 7 = mkF m 0 #[.val (.ref x0), .val (.long x1), .second, .val (.long x2), .second, .val (.long x3), .second] [] := by first | (simp [entryFrame, mkF, argsToLocals, Value.category]; done) | rfl
abbrev R_ad2 : Room := { frames := 1, cells := 0, slots := 0, locals := 17 }
def Qad2 (Z : State) (a1 : Addr) (q2 : Int64) (q3 : Int64) (q4 : Int64) (aB : Addr) (aP : Addr) (aM : Addr) (kB : ClassId) (kP : ClassId) (kM : ClassId) (fz : Int64) (b0 : Int64) (b1 : Int64) (b2 : Int64) (b3 : Int64) (b4 : Int64) (b5 : Int64) (b6 : Int64) (b7 : Int64) (c0 : Int64) (c1 : Int64) (c2 : Int64) (c3 : Int64) (c4 : Int64) (c5 : Int64) (c6 : Int64) (c7 : Int64) (x0 : Int64) (x1 : Int64) (x2 : Int64) (x3 : Int64) (x4 : Int64) (x5 : Int64) (x6 : Int64) (x7 : Int64) (h0 : Heap) (n0 : Nat) (v : Option Value) (h : Heap) (L : List Loc) : Prop := v = none ∧ Fr n0 L ∧ Keep h0 h [a1, aB, aP, aM] ∧ Exa Z h a1 KC ∧ Fld Z h a1 KC KB "[J" (.ref aB) ∧ Fld Z h a1 KC KP "[J" (.ref aP) ∧ Fld Z h a1 KC KM "[J" (.ref aM) ∧ Fld Z h a1 KC "count" "I" (.int 3) ∧ Fld Z h a1 KC "first" "J" (.long fz) ∧ Arv Z h aB kB .long (8 : Int32) [(.long b0), (.long b1), (.long q2), (.long b3), (.long b4), (.long b5), (.long b6), (.long b7)] (.long 0) ∧ Arv Z h aP kP .long (8 : Int32) [(.long c0), (.long c1), (.long q3), (.long c3), (.long c4), (.long c5), (.long c6), (.long c7)] (.long 0) ∧ Arv Z h aM kM .long (8 : Int32) [(.long x0), (.long x1), (.long (fmj q4 x1)), (.long x3), (.long x4), (.long x5), (.long x6), (.long x7)] (.long 0)
set_option maxRecDepth 65536 in
set_option maxHeartbeats 40000000 in
theorem rmad2 (l : Launch) (Z : State) (a0 : Array Value) (hw : ∀ d ∈ tables_1, d.before a0 Z = true) (ws : List Jvm.Cond) (a1 : Addr) (q2 : Int64) (q3 : Int64) (q4 : Int64) (aB : Addr) (aP : Addr) (aM : Addr) (kB : ClassId) (kP : ClassId) (kM : ClassId) (fz : Int64) (b0 : Int64) (b1 : Int64) (b2 : Int64) (b3 : Int64) (b4 : Int64) (b5 : Int64) (b6 : Int64) (b7 : Int64) (c0 : Int64) (c1 : Int64) (c2 : Int64) (c3 : Int64) (c4 : Int64) (c5 : Int64) (c6 : Int64) (c7 : Int64) (x0 : Int64) (x1 : Int64) (x2 : Int64) (x3 : Int64) (x4 : Int64) (x5 : Int64) (x6 : Int64) (x7 : Int64) (h0 : Heap) (n0 : Nat) (Z0 : n0 ≤ h0.size) (E_a1 : Exa Z h0 a1 KC) (F_baseOffsets_a1 : Fld Z h0 a1 KC KB "[J" (.ref aB)) (F_positions_a1 : Fld Z h0 a1 KC KP "[J" (.ref aP)) (F_maxTimestampsSoFar_a1 : Fld Z h0 a1 KC KM "[J" (.ref aM)) (F_count_a1 : Fld Z h0 a1 KC "count" "I" (.int 2)) (F_first_a1 : Fld Z h0 a1 KC "first" "J" (.long fz)) (V_aB : Arv Z h0 aB kB .long (8 : Int32) [(.long b0), (.long b1), (.long b2), (.long b3), (.long b4), (.long b5), (.long b6), (.long b7)] (.long 0)) (V_aP : Arv Z h0 aP kP .long (8 : Int32) [(.long c0), (.long c1), (.long c2), (.long c3), (.long c4), (.long c5), (.long c6), (.long c7)] (.long 0)) (V_aM : Arv Z h0 aM kM .long (8 : Int32) [(.long x0), (.long x1), (.long x2), (.long x3), (.long x4), (.long x5), (.long x6), (.long x7)] (.long 0)) (g_a1 : n0 ≤ a1) (g_aB : n0 ≤ aB) (g_aP : n0 ≤ aP) (g_aM : n0 ≤ aM) (ne_a1_aB : a1 ≠ aB) (ne_a1_aP : a1 ≠ aP) (ne_a1_aM : a1 ≠ aM) (ne_aB_aP : aB ≠ aP) (ne_aB_aM : aB ≠ aM) (ne_aP_aM : aP ≠ aM) :
    MetFree l (⟨KC, "add", "(JJJ)V"⟩ : MethodName) (head1 (Jvm.Cond.code (⟨KC, "add", "(JJJ)V"⟩ : MethodName) prog_126_method_2_code 7 none :: ws) R_ad2) (fun a U => a = #[(.ref a1), (.long q2), (.long q3), (.long q4)] ∧ Z.Warmed39 U.vm ∧ U.heap = h0) (fun _ _ _ _ _ => True) (fun _ U o U' => ∃ v L, o = .returned v ∧ Qad2 Z a1 q2 q3 q4 aB aP aM kB kP kM fz b0 b1 b2 b3 b4 b5 b6 b7 c0 c1 c2 c3 c4 c5 c6 c7 x0 x1 x2 x3 x4 x5 x6 x7 h0 n0 v U'.heap L ∧ FrameEnd U o U' L R_ad2.cells R_ad2.slots) := by
  refine MetFree.of_bodySF (plainFor_of_name pn_55) hisR ?_
  intro p e s m args below meth c s₁ Bd hml0 hP hK
  obtain ⟨rfl, hZ, hh⟩ := hP
  have hx := Bd.exec
  have hby := Bd.bytes
  have hml : c.maxLocals = 7 := hml0
  have hown : s.vm.findClass KC = some m.cls := findClass_of_methodNamed Bd.named
  have hnm := (name_of_methodNamed Bd.named Bd.method).1
  have X0 : Stand p l e R_ad2 s m #[(.ref a1), (.long q2), (.long q3), (.long q4)] below meth c s₁ [] 0 0 := Stand.of_body Bd
  have e0 : s₁.heap = h0 := by rw [← hh, Bd.state]; rfl
  have N0 := Fr.nil n0
  have pre0 : ∀ t, Steps p.tables e below (s₁.setTop (mkF m 0 #[uR a1, uL q2, uS, uL q3, uS, uL q4, uS] [])) t → Steps p.tables e below (s₁.setTop (entryFrame m #[(.ref a1), (.long q2), (.long q3), (.long q4)] 7)) t := fun t k => castTop (ef_ad2 m a1 q2 q3 q4) k
  obtain ⟨T1, X1, e1, st1⟩ := getF X0 hx hZ hown (host := "") (Or.inl (own_w hw (i := 27) rfl)) Via.refl e0 F_count_a1 (g := (mkF m 1 #[uR a1, uL q2, uS, uL q3, uS, uL q4, uS] [(.ref a1)])) rfl rfl (hb hby d14_1)
  obtain ⟨T2, X2, e2, st2⟩ := getF X1 hx hZ hown (host := "") (Or.inl (own_w hw (i := 11) rfl)) Via.refl e1 F_baseOffsets_a1 (g := (mkF m 5 #[uR a1, uL q2, uS, uL q3, uS, uL q4, uS] [(.ref a1), (.int 2)])) rfl rfl (hb hby d14_5)
  obtain ⟨car3, Aar3, qar3, Sar3, Nar3, Har3, Gar3⟩ := id V_aB
  obtain ⟨T4, X4, e4, st4⟩ := getF X2 hx hZ hown (host := "") (Or.inl (own_w hw (i := 11) rfl)) Via.refl e2 F_baseOffsets_a1 (g := (mkF m 28 #[uR a1, uL q2, uS, uL q3, uS, uL q4, uS] [(.ref a1)])) rfl rfl (hb hby d14_28)
  obtain ⟨T5, X5, e5, st5⟩ := getF X4 hx hZ hown (host := "") (Or.inl (own_w hw (i := 27) rfl)) Via.refl e4 F_count_a1 (g := (mkF m 32 #[uR a1, uL q2, uS, uL q3, uS, uL q4, uS] [(.ref a1), (.ref aB)])) rfl rfl (hb hby d14_32)
  obtain ⟨car6, Aar6, qar6, Sar6, Nar6, Har6, Gar6⟩ := id V_aB
  have hinar6 : ¬ ((2 : Int32) < 0 ∨ car6.slots.size ≤ ((2 : Int32)).toNatClampNeg) := inb_of Sar6 ⟨by decide, by decide⟩
  obtain ⟨T7, h7, X7, e7, W7, st7⟩ := stJ X5 hx hZ e5 Aar6 (j := (2 : Int32)) hinar6 (g := (mkF m 36 #[uR a1, uL q2, uS, uL q3, uS, uL q4, uS] [(.long q2), (.int 2), (.ref aB)])) rfl rfl (hb hby d14_36)
  have V7 : Arv Z h7 aB kB .long (8 : Int32) [(.long b0), (.long b1), (.long q2), (.long b3), (.long b4), (.long b5), (.long b6), (.long b7)] (.long 0) := Arv.set Aar6 qar6 Sar6 Nar6 Har6 Gar6 rfl W7 2 rfl (Nat.le_of_ble_eq_true rfl)
  have f8 := E_a1.wr W7
  have f9 := F_baseOffsets_a1.other W7 (Or.inl ne_a1_aB)
  have f10 := F_positions_a1.other W7 (Or.inl ne_a1_aB)
  have f11 := F_maxTimestampsSoFar_a1.other W7 (Or.inl ne_a1_aB)
  have f12 := F_count_a1.other W7 (Or.inl ne_a1_aB)
  have f13 := F_first_a1.other W7 (Or.inl ne_a1_aB)
  have f15 := V_aP.other W7 (Ne.symm ne_aB_aP)
  have f16 := V_aM.other W7 (Ne.symm ne_aB_aM)
  have K17 := (Keep.refl h0 [a1, aB, aP, aM]).wr W7 (Or.inl (List.mem_of_getElem? (i := 1) rfl))
  have zs18 : n0 ≤ h7.size := Nat.le_trans Z0 (Keep.of_wr W7).1
  have N19 := Fr.snoc X7 N0 g_aB
  obtain ⟨T20, X20, e20, st20⟩ := getF X7 hx hZ hown (host := "") (Or.inl (own_w hw (i := 13) rfl)) Via.refl e7 f10 (g := (mkF m 38 #[uR a1, uL q2, uS, uL q3, uS, uL q4, uS] [(.ref a1)])) rfl rfl (hb hby d14_38)
  obtain ⟨T21, X21, e21, st21⟩ := getF X20 hx hZ hown (host := "") (Or.inl (own_w hw (i := 27) rfl)) Via.refl e20 f12 (g := (mkF m 42 #[uR a1, uL q2, uS, uL q3, uS, uL q4, uS] [(.ref a1), (.ref aP)])) rfl rfl (hb hby d14_42)
  obtain ⟨car22, Aar22, qar22, Sar22, Nar22, Har22, Gar22⟩ := id f15
  have hinar22 : ¬ ((2 : Int32) < 0 ∨ car22.slots.size ≤ ((2 : Int32)).toNatClampNeg) := inb_of Sar22 ⟨by decide, by decide⟩
  obtain ⟨T23, h23, X23, e23, W23, st23⟩ := stJ X21 hx hZ e21 Aar22 (j := (2 : Int32)) hinar22 (g := (mkF m 46 #[uR a1, uL q2, uS, uL q3, uS, uL q4, uS] [(.long q3), (.int 2), (.ref aP)])) rfl rfl (hb hby d14_46)
  have V23 : Arv Z h23 aP kP .long (8 : Int32) [(.long c0), (.long c1), (.long q3), (.long c3), (.long c4), (.long c5), (.long c6), (.long c7)] (.long 0) := Arv.set Aar22 qar22 Sar22 Nar22 Har22 Gar22 rfl W23 2 rfl (Nat.le_of_ble_eq_true rfl)
  have f24 := f8.wr W23
  have f25 := f9.other W23 (Or.inl ne_a1_aP)
  have f26 := f10.other W23 (Or.inl ne_a1_aP)
  have f27 := f11.other W23 (Or.inl ne_a1_aP)
  have f28 := f12.other W23 (Or.inl ne_a1_aP)
  have f29 := f13.other W23 (Or.inl ne_a1_aP)
  have f31 := f16.other W23 (Ne.symm ne_aP_aM)
  have f32 := V7.other W23 ne_aB_aP
  have K33 := K17.wr W23 (Or.inl (List.mem_of_getElem? (i := 2) rfl))
  have zs34 : n0 ≤ h23.size := Nat.le_trans zs18 (Keep.of_wr W23).1
  have N35 := Fr.snoc X23 N19 g_aP
  obtain ⟨T36, X36, e36, st36⟩ := getF X23 hx hZ hown (host := "") (Or.inl (own_w hw (i := 15) rfl)) Via.refl e23 f27 (g := (mkF m 48 #[uR a1, uL q2, uS, uL q3, uS, uL q4, uS] [(.ref a1)])) rfl rfl (hb hby d14_48)
  obtain ⟨T37, X37, e37, st37⟩ := getF X36 hx hZ hown (host := "") (Or.inl (own_w hw (i := 27) rfl)) Via.refl e36 f28 (g := (mkF m 52 #[uR a1, uL q2, uS, uL q3, uS, uL q4, uS] [(.ref a1), (.ref aM)])) rfl rfl (hb hby d14_52)
  obtain ⟨T38, X38, e38, st38⟩ := getF X37 hx hZ hown (host := "") (Or.inl (own_w hw (i := 27) rfl)) Via.refl e37 f28 (g := (mkF m 56 #[uR a1, uL q2, uS, uL q3, uS, uL q4, uS] [(.ref a1), (.int 2), (.ref aM)])) rfl rfl (hb hby d14_56)
  obtain ⟨T39, X39, e39, st39⟩ := getF X38 hx hZ hown (host := "") (Or.inl (own_w hw (i := 15) rfl)) Via.refl e38 f27 (g := (mkF m 70 #[uR a1, uL q2, uS, uL q3, uS, uL q4, uS] [(.ref a1), (.long q4), (.int 2), (.ref aM)])) rfl rfl (hb hby d14_70)
  obtain ⟨T40, X40, e40, st40⟩ := getF X39 hx hZ hown (host := "") (Or.inl (own_w hw (i := 27) rfl)) Via.refl e39 f28 (g := (mkF m 74 #[uR a1, uL q2, uS, uL q3, uS, uL q4, uS] [(.ref a1), (.ref aM), (.long q4), (.int 2), (.ref aM)])) rfl rfl (hb hby d14_74)
  obtain ⟨car41, Aar41, qar41, Sar41, Nar41, Har41, Gar41⟩ := id f31
  have hinar41 : ¬ ((1 : Int32) < 0 ∨ car41.slots.size ≤ ((1 : Int32)).toNatClampNeg) := inb_of Sar41 ⟨by decide, by decide⟩
  have hatar41 : car41.slots[((1 : Int32)).toNatClampNeg]? = some (.long x1) := Har41.at hinar41 rfl
  -- pc 80: Math.max by rmmj
  obtain ⟨_, _, ⟨T42, L42, ck42, cn42⟩, -, X42, ⟨Lc42, hQ42, l42, y42, z42⟩, st42⟩ := Jvm.LawKit.callS X40 hx (y := (⟨"java/lang/Math", "max", "(JJ)J"⟩ : MethodName)) hown (mvT hZ (own_w hw (i := 77) rfl)) (mvT hZ (own_w hw (i := 63) rfl)) (mvT hZ (own_w hw (i := 47) rfl)) (mvT hZ (own_w hw (i := 64) rfl)) (by decide) (backOf (W := 2) (rmmj l Z a0 hw [] q4 x1 h23 n0 zs34 ) hZ (own_w hw (i := 64) rfl) (own_w hw (i := 47) rfl) (by decide) (by decide)) (g := (mkF m 80 #[uR a1, uL q2, uS, uL q3, uS, uL q4, uS] [(.long x1), (.long q4), (.int 2), (.ref aM)])) rfl (by rw [hml]; rfl) (argsL := [(.long q4), (.long x1)]) (rest := [(.int 2), (.ref aM)]) (lenOf pd_157 rfl) rfl (by show 2 * 0 + _ ≤ _; exact Nat.le_of_eq rfl) (hb hby d14_80) (fun _ _ => ⟨rfl, e40, (by decide : 0 + 0 ≤ _), (by decide : 0 + 0 ≤ _)⟩)
  dsimp only [Pt.U, Pt.locs, Pt.cells, Pt.slots] at X42 l42 y42 z42 st42 hQ42
  subst y42 z42
  obtain ⟨rfl, N42q, e42⟩ := hQ42
  have N43 : Fr n0 L42 := by rw [l42]; exact Fr.app N35 N42q
  obtain ⟨car44, Aar44, qar44, Sar44, Nar44, Har44, Gar44⟩ := id f31
  have hinar44 : ¬ ((2 : Int32) < 0 ∨ car44.slots.size ≤ ((2 : Int32)).toNatClampNeg) := inb_of Sar44 ⟨by decide, by decide⟩
  obtain ⟨T45, h45, X45, e45, W45, st45⟩ := stJ X42 hx hZ e42 Aar44 (j := (2 : Int32)) hinar44 (g := (mkF m 83 #[uR a1, uL q2, uS, uL q3, uS, uL q4, uS] [(.long (fmj q4 x1)), (.int 2), (.ref aM)])) rfl rfl (hb hby d14_83)
  have V45 : Arv Z h45 aM kM .long (8 : Int32) [(.long x0), (.long x1), (.long (fmj q4 x1)), (.long x3), (.long x4), (.long x5), (.long x6), (.long x7)] (.long 0) := Arv.set Aar44 qar44 Sar44 Nar44 Har44 Gar44 rfl W45 2 rfl (Nat.le_of_ble_eq_true rfl)
  have f46 := f24.wr W45
  have f47 := f25.other W45 (Or.inl ne_a1_aM)
  have f48 := f26.other W45 (Or.inl ne_a1_aM)
  have f49 := f27.other W45 (Or.inl ne_a1_aM)
  have f50 := f28.other W45 (Or.inl ne_a1_aM)
  have f51 := f29.other W45 (Or.inl ne_a1_aM)
  have f53 := f32.other W45 ne_aB_aM
  have f54 := V23.other W45 ne_aP_aM
  have K55 := K33.wr W45 (Or.inl (List.mem_of_getElem? (i := 3) rfl))
  have N57 := Fr.snoc X45 N43 g_aM
  obtain ⟨T58, X58, e58, st58⟩ := getF X45 hx hZ hown (host := "") (Or.inl (own_w hw (i := 27) rfl)) Via.refl e45 f50 (g := (mkF m 86 #[uR a1, uL q2, uS, uL q3, uS, uL q4, uS] [(.ref a1), (.ref a1)])) rfl rfl (hb hby d14_86)
  obtain ⟨T59, h59, X59, e59, W59, st59⟩ := putF X58 hx hZ hown (host := "") (Or.inl (own_w hw (i := 27) rfl)) Via.refl e58 f50 f46 (Or.inl (own_w hw (i := 28) rfl)) (own_w hw (i := 1) rfl) (ty := .int) (by decide) rfl rfl (g := (mkF m 91 #[uR a1, uL q2, uS, uL q3, uS, uL q4, uS] [(.int 3), (.ref a1)])) rfl rfl (hb hby d14_91)
  have f60 := f46.wr W59
  have f61 := f47.other W59 (Or.inr (sn_143 hw))
  have f62 := f48.other W59 (Or.inr (sn_144 hw))
  have f63 := f49.other W59 (Or.inr (sn_145 hw))
  have f64 := f50.same W59
  have f65 := f51.other W59 (Or.inr (sn_146 hw))
  have f66 := f53.other W59 (Ne.symm ne_a1_aB)
  have f67 := f54.other W59 (Ne.symm ne_a1_aP)
  have f68 := V45.other W59 (Ne.symm ne_a1_aM)
  have K69 := K55.wr W59 (Or.inl (List.mem_of_getElem? (i := 0) rfl))
  have N71 := Fr.snoc X59 N57 g_a1
  obtain ⟨fs, hr, hrun, hended, hW, hsame⟩ := X59.leave (v := none) (fun _ => rfl) Bd.notSynchronized
  refine ⟨_, _, pre0 _ ?_, hrun, hended, _, _, rfl, ?_, ⟨_, rfl⟩, hW, hsame.mono (by decide) (by decide)⟩
  · show Steps p.tables e below (s₁.setTop (mkF m 0 #[uR a1, uL q2, uS, uL q3, uS, uL q4, uS] [])) _
    refine XS.aloadN X0.here hx rfl (hb hby d14_0) rfl rfl ?_
    refine st1 _ ?_
    refine XS.aloadN X1.here hx rfl (hb hby d14_4) rfl rfl ?_
    refine st2 _ ?_
    refine X2.arraylength hx (by rw [e2]; exact Aar3.1) (State.isArrayOf_alike hZ.alike Aar3.2.1) (g := (mkF m 8 #[uR a1, uL q2, uS, uL q3, uS, uL q4, uS] [(.ref aB), (.int 2)])) rfl rfl (hb hby d14_8) _ ?_
    rw [len_of Sar3 Nar3]
    show Steps p.tables e below (T2.setTop (mkF m 9 #[uR a1, uL q2, uS, uL q3, uS, uL q4, uS] [(.int 8), (.int 2)])) _
    refine XS.icmpYes X2.here hx rfl (pc0 := 9) (pc' := 27) rfl (hb hby d14_9) rfl (feq (by decide : ¬ ((2 : Int32) = (8 : Int32)))).2 (by decide) (by decide) ?_
    refine XS.aloadN X2.here hx rfl (hb hby d14_27) rfl rfl ?_
    refine st4 _ ?_
    refine XS.aloadN X4.here hx rfl (hb hby d14_31) rfl rfl ?_
    refine st5 _ ?_
    refine XS.lloadN X5.here hx rfl (hb hby d14_35) rfl ?_
    refine st7 _ ?_
    refine XS.aloadN X7.here hx rfl (hb hby d14_37) rfl rfl ?_
    refine st20 _ ?_
    refine XS.aloadN X20.here hx rfl (hb hby d14_41) rfl rfl ?_
    refine st21 _ ?_
    show Steps p.tables e below (T21.setTop (mkF m 45 #[uR a1, uL q2, uS, uL q3, uS, uL q4, uS] [(.int 2), (.ref aP)])) _
    refine XS.lloadN X21.here hx rfl (hb hby d14_45) rfl ?_
    refine st23 _ ?_
    refine XS.aloadN X23.here hx rfl (hb hby d14_47) rfl rfl ?_
    refine st36 _ ?_
    refine XS.aloadN X36.here hx rfl (hb hby d14_51) rfl rfl ?_
    refine st37 _ ?_
    refine XS.aloadN X37.here hx rfl (hb hby d14_55) rfl rfl ?_
    refine st38 _ ?_
    show Steps p.tables e below (T38.setTop (mkF m 59 #[uR a1, uL q2, uS, uL q3, uS, uL q4, uS] [(.int 2), (.int 2), (.ref aM)])) _
    refine XS.ifYes X38.here hx rfl (pc0 := 59) (pc' := 67) rfl (hb hby d14_59) rfl ((if0 _ _).trans (feq (by decide : ¬ ((2 : Int32) = (0 : Int32)))).2) (by decide) (by decide) ?_
    refine XS.lload X38.here hx rfl (hb hby d14_67) rfl ?_
    refine XS.aloadN X38.here hx rfl (hb hby d14_69) rfl rfl ?_
    refine st39 _ ?_
    refine XS.aloadN X39.here hx rfl (hb hby d14_73) rfl rfl ?_
    refine st40 _ ?_
    refine XS.iconst X40.here hx rfl (hb hby d14_77) ?_
    refine XS.isub X40.here hx rfl (hb hby d14_78) rfl ?_
    show Steps p.tables e below (T40.setTop (mkF m 79 #[uR a1, uL q2, uS, uL q3, uS, uL q4, uS] [(.int 1), (.ref aM), (.long q4), (.int 2), (.ref aM)])) _
    refine X40.laload hx (j := (1 : Int32)) (v := (.long x1)) (by rw [e40]; exact Aar41.1) (State.isArrayOf_alike hZ.alike Aar41.2.1) Aar41.2.2 hinar41 hatar41 (g := (mkF m 79 #[uR a1, uL q2, uS, uL q3, uS, uL q4, uS] [(.int 1), (.ref aM), (.long q4), (.int 2), (.ref aM)])) rfl rfl (hb hby d14_79) _ ?_
    refine st42 _ ?_
    refine st45 _ ?_
    refine XS.aloadN X45.here hx rfl (hb hby d14_84) rfl rfl ?_
    refine XS.dup X45.here hx rfl (hb hby d14_85) rfl rfl ?_
    refine st58 _ ?_
    refine XS.iconst X58.here hx rfl (hb hby d14_89) ?_
    refine XS.iadd X58.here hx rfl (hb hby d14_90) rfl ?_
    refine st59 _ ?_
    exact X59.returnOut hx Bd.returns (hb hby d14_94) hr
  · show Qad2 Z a1 q2 q3 q4 aB aP aM kB kP kM fz b0 b1 b2 b3 b4 b5 b6 b7 c0 c1 c2 c3 c4 c5 c6 c7 x0 x1 x2 x3 x4 x5 x6 x7 h0 n0 _ T59.heap _
    rw [e59]
    exact ⟨rfl, N71, K69, f60, f61, f62, f63, f64, f65, f66, f67, f68⟩
theorem ef_ad3 (m : MethodId) (x0 : Addr) (x1 : Int64) (x2 : Int64) (x3 : Int64) : entryFrame m #[(.ref x0), (.long x1), (.long x2), (.long x3)] 7 = mkF m 0 #[.val (.ref x0), .val (.long x1), .second, .val (.long x2), .second, .val (.long x3), .second] [] := by first | (simp [entryFrame, mkF, argsToLocals, Value.category]; done) | rfl
abbrev R_ad3 : Room := { frames := 1, cells := 0, slots := 0, locals := 17 }
def Qad3 (Z : State) (a1 : Addr) (q2 : Int64) (q3 : Int64) (q4 : Int64) (aB : Addr) (aP : Addr) (aM : Addr) (kB : ClassId) (kP : ClassId) (kM : ClassId) (fz : Int64) (b0 : Int64) (b1 : Int64) (b2 : Int64) (b3 : Int64) (b4 : Int64) (b5 : Int64) (b6 : Int64) (b7 : Int64) (c0 : Int64) (c1 : Int64) (c2 : Int64) (c3 : Int64) (c4 : Int64) (c5 : Int64) (c6 : Int64) (c7 : Int64) (x0 : Int64) (x1 : Int64) (x2 : Int64) (x3 : Int64) (x4 : Int64) (x5 : Int64) (x6 : Int64) (x7 : Int64) (h0 : Heap) (n0 : Nat) (v : Option Value) (h : Heap) (L : List Loc) : Prop := v = none ∧ Fr n0 L ∧ Keep h0 h [a1, aB, aP, aM] ∧ Exa Z h a1 KC ∧ Fld Z h a1 KC KB "[J" (.ref aB) ∧ Fld Z h a1 KC KP "[J" (.ref aP) ∧ Fld Z h a1 KC KM "[J" (.ref aM) ∧ Fld Z h a1 KC "count" "I" (.int 4) ∧ Fld Z h a1 KC "first" "J" (.long fz) ∧ Arv Z h aB kB .long (8 : Int32) [(.long b0), (.long b1), (.long b2), (.long q2), (.long b4), (.long b5), (.long b6), (.long b7)] (.long 0) ∧ Arv Z h aP kP .long (8 : Int32) [(.long c0), (.long c1), (.long c2), (.long q3), (.long c4), (.long c5), (.long c6), (.long c7)] (.long 0) ∧ Arv Z h aM kM .long (8 : Int32) [(.long x0), (.long x1), (.long x2), (.long (fmj q4 x2)), (.long x4), (.long x5), (.long x6), (.long x7)] (.long 0)
set_option maxRecDepth 65536 in
set_option maxHeartbeats 40000000 in
theorem rmad3 (l : Launch) (Z : State) (a0 : Array Value) (hw : ∀ d ∈ tables_1, d.before a0 Z = true) (ws : List Jvm.Cond) (a1 : Addr) (q2 : Int64) (q3 : Int64) (q4 : Int64) (aB : Addr) (aP : Addr) (aM : Addr) (kB : ClassId) (kP : ClassId) (kM : ClassId) (fz : Int64) (b0 : Int64) (b1 : Int64) (b2 : Int64) (b3 : Int64) (b4 : Int64) (b5 : Int64) (b6 : Int64) (b7 : Int64) (c0 : Int64) (c1 : Int64) (c2 : Int64) (c3 : Int64) (c4 : Int64) (c5 : Int64) (c6 : Int64) (c7 : Int64) (x0 : Int64) (x1 : Int64) (x2 : Int64) (x3 : Int64) (x4 : Int64) (x5 : Int64) (x6 : Int64) (x7 : Int64) (h0 : Heap) (n0 : Nat) (Z0 : n0 ≤ h0.size) (E_a1 : Exa Z h0 a1 KC) (F_baseOffsets_a1 : Fld Z h0 a1 KC KB "[J" (.ref aB)) (F_positions_a1 : Fld Z h0 a1 KC KP "[J" (.ref aP)) (F_maxTimestampsSoFar_a1 : Fld Z h0 a1 KC KM "[J" (.ref aM)) (F_count_a1 : Fld Z h0 a1 KC "count" "I" (.int 3)) (F_first_a1 : Fld Z h0 a1 KC "first" "J" (.long fz)) (V_aB : Arv Z h0 aB kB .long (8 : Int32) [(.long b0), (.long b1), (.long b2), (.long b3), (.long b4), (.long b5), (.long b6), (.long b7)] (.long 0)) (V_aP : Arv Z h0 aP kP .long (8 : Int32) [(.long c0), (.long c1), (.long c2), (.long c3), (.long c4), (.long c5), (.long c6), (.long c7)] (.long 0)) (V_aM : Arv Z h0 aM kM .long (8 : Int32) [(.long x0), (.long x1), (.long x2), (.long x3), (.long x4), (.long x5), (.long x6), (.long x7)] (.long 0)) (g_a1 : n0 ≤ a1) (g_aB : n0 ≤ aB) (g_aP : n0 ≤ aP) (g_aM : n0 ≤ aM) (ne_a1_aB : a1 ≠ aB) (ne_a1_aP : a1 ≠ aP) (ne_a1_aM : a1 ≠ aM) (ne_aB_aP : aB ≠ aP) (ne_aB_aM : aB ≠ aM) (ne_aP_aM : aP ≠ aM) :
    MetFree l (⟨KC, "add", "(JJJ)V"⟩ : MethodName) (head1 (Jvm.Cond.code (⟨KC, "add", "(JJJ)V"⟩ : MethodName) prog_126_method_2_code 7 none :: ws) R_ad3) (fun a U => a = #[(.ref a1), (.long q2), (.long q3), (.long q4)] ∧ Z.Warmed39 U.vm ∧ U.heap = h0) (fun _ _ _ _ _ => True) (fun _ U o U' => ∃ v L, o = .returned v ∧ Qad3 Z a1 q2 q3 q4 aB aP aM kB kP kM fz b0 b1 b2 b3 b4 b5 b6 b7 c0 c1 c2 c3 c4 c5 c6 c7 x0 x1 x2 x3 x4 x5 x6 x7 h0 n0 v U'.heap L ∧ FrameEnd U o U' L R_ad3.cells R_ad3.slots) := by
  refine MetFree.of_bodySF (plainFor_of_name pn_55) hisR ?_
  intro p e s m args below meth c s₁ Bd hml0 hP hK
  obtain ⟨rfl, hZ, hh⟩ := hP
  have hx := Bd.exec
  have hby := Bd.bytes
  have hml : c.maxLocals = 7 := hml0
  have hown : s.vm.findClass KC = some m.cls := findClass_of_methodNamed Bd.named
  have hnm := (name_of_methodNamed Bd.named Bd.method).1
  have X0 : Stand p l e R_ad3 s m #[(.ref a1), (.long q2), (.long q3), (.long q4)] below meth c s₁ [] 0 0 := Stand.of_body Bd
  have e0 : s₁.heap = h0 := by rw [← hh, Bd.state]; rfl
  have N0 := Fr.nil n0
  have pre0 : ∀ t, Steps p.tables e below (s₁.setTop (mkF m 0 #[uR a1, uL q2, uS, uL q3, uS, uL q4, uS] [])) t → Steps p.tables e below (s₁.setTop (entryFrame m #[(.ref a1), (.long q2), (.long q3), (.long q4)] 7)) t := fun t k => castTop (ef_ad3 m a1 q2 q3 q4) k
  obtain ⟨T1, X1, e1, st1⟩ := getF X0 hx hZ hown (host := "") (Or.inl (own_w hw (i := 27) rfl)) Via.refl e0 F_count_a1 (g := (mkF m 1 #[uR a1, uL q2, uS, uL q3, uS, uL q4, uS] [(.ref a1)])) rfl rfl (hb hby d14_1)
  obtain ⟨T2, X2, e2, st2⟩ := getF X1 hx hZ hown (host := "") (Or.inl (own_w hw (i := 11) rfl)) Via.refl e1 F_baseOffsets_a1 (g := (mkF m 5 #[uR a1, uL q2, uS, uL q3, uS, uL q4, uS] [(.ref a1), (.int 3)])) rfl rfl (hb hby d14_5)
  obtain ⟨car3, Aar3, qar3, Sar3, Nar3, Har3, Gar3⟩ := id V_aB
  obtain ⟨T4, X4, e4, st4⟩ := getF X2 hx hZ hown (host := "") (Or.inl (own_w hw (i := 11) rfl)) Via.refl e2 F_baseOffsets_a1 (g := (mkF m 28 #[uR a1, uL q2, uS, uL q3, uS, uL q4, uS] [(.ref a1)])) rfl rfl (hb hby d14_28)
  obtain ⟨T5, X5, e5, st5⟩ := getF X4 hx hZ hown (host := "") (Or.inl (own_w hw (i := 27) rfl)) Via.refl e4 F_count_a1 (g := (mkF m 32 #[uR a1, uL q2, uS, uL q3, uS, uL q4, uS] [(.ref a1), (.ref aB)])) rfl rfl (hb hby d14_32)
  obtain ⟨car6, Aar6, qar6, Sar6, Nar6, Har6, Gar6⟩ := id V_aB
  have hinar6 : ¬ ((3 : Int32) < 0 ∨ car6.slots.size ≤ ((3 : Int32)).toNatClampNeg) := inb_of Sar6 ⟨by decide, by decide⟩
  obtain ⟨T7, h7, X7, e7, W7, st7⟩ := stJ X5 hx hZ e5 Aar6 (j := (3 : Int32)) hinar6 (g := (mkF m 36 #[uR a1, uL q2, uS, uL q3, uS, uL q4, uS] [(.long q2), (.int 3), (.ref aB)])) rfl rfl (hb hby d14_36)
  have V7 : Arv Z h7 aB kB .long (8 : Int32) [(.long b0), (.long b1), (.long b2), (.long q2), (.long b4), (.long b5), (.long b6), (.long b7)] (.long 0) := Arv.set Aar6 qar6 Sar6 Nar6 Har6 Gar6 rfl W7 3 rfl (Nat.le_of_ble_eq_true rfl)
  have f8 := E_a1.wr W7
  have f9 := F_baseOffsets_a1.other W7 (Or.inl ne_a1_aB)
  have f10 := F_positions_a1.other W7 (Or.inl ne_a1_aB)
  have f11 := F_maxTimestampsSoFar_a1.other W7 (Or.inl ne_a1_aB)
  have f12 := F_count_a1.other W7 (Or.inl ne_a1_aB)
  have f13 := F_first_a1.other W7 (Or.inl ne_a1_aB)
  have f15 := V_aP.other W7 (Ne.symm ne_aB_aP)
  have f16 := V_aM.other W7 (Ne.symm ne_aB_aM)
  have K17 := (Keep.refl h0 [a1, aB, aP, aM]).wr W7 (Or.inl (List.mem_of_getElem? (i := 1) rfl))
  have zs18 : n0 ≤ h7.size := Nat.le_trans Z0 (Keep.of_wr W7).1
  have N19 := Fr.snoc X7 N0 g_aB
  obtain ⟨T20, X20, e20, st20⟩ := getF X7 hx hZ hown (host := "") (Or.inl (own_w hw (i := 13) rfl)) Via.refl e7 f10 (g := (mkF m 38 #[uR a1, uL q2, uS, uL q3, uS, uL q4, uS] [(.ref a1)])) rfl rfl (hb hby d14_38)
  obtain ⟨T21, X21, e21, st21⟩ := getF X20 hx hZ hown (host := "") (Or.inl (own_w hw (i := 27) rfl)) Via.refl e20 f12 (g := (mkF m 42 #[uR a1, uL q2, uS, uL q3, uS, uL q4, uS] [(.ref a1), (.ref aP)])) rfl rfl (hb hby d14_42)
  obtain ⟨car22, Aar22, qar22, Sar22, Nar22, Har22, Gar22⟩ := id f15
  have hinar22 : ¬ ((3 : Int32) < 0 ∨ car22.slots.size ≤ ((3 : Int32)).toNatClampNeg) := inb_of Sar22 ⟨by decide, by decide⟩
  obtain ⟨T23, h23, X23, e23, W23, st23⟩ := stJ X21 hx hZ e21 Aar22 (j := (3 : Int32)) hinar22 (g := (mkF m 46 #[uR a1, uL q2, uS, uL q3, uS, uL q4, uS] [(.long q3), (.int 3), (.ref aP)])) rfl rfl (hb hby d14_46)
  have V23 : Arv Z h23 aP kP .long (8 : Int32) [(.long c0), (.long c1), (.long c2), (.long q3), (.long c4), (.long c5), (.long c6), (.long c7)] (.long 0) := Arv.set Aar22 qar22 Sar22 Nar22 Har22 Gar22 rfl W23 3 rfl (Nat.le_of_ble_eq_true rfl)
  have f24 := f8.wr W23
  have f25 := f9.other W23 (Or.inl ne_a1_aP)
  have f26 := f10.other W23 (Or.inl ne_a1_aP)
  have f27 := f11.other W23 (Or.inl ne_a1_aP)
  have f28 := f12.other W23 (Or.inl ne_a1_aP)
  have f29 := f13.other W23 (Or.inl ne_a1_aP)
  have f31 := f16.other W23 (Ne.symm ne_aP_aM)
  have f32 := V7.other W23 ne_aB_aP
  have K33 := K17.wr W23 (Or.inl (List.mem_of_getElem? (i := 2) rfl))
  have zs34 : n0 ≤ h23.size := Nat.le_trans zs18 (Keep.of_wr W23).1
  have N35 := Fr.snoc X23 N19 g_aP
  obtain ⟨T36, X36, e36, st36⟩ := getF X23 hx hZ hown (host := "") (Or.inl (own_w hw (i := 15) rfl)) Via.refl e23 f27 (g := (mkF m 48 #[uR a1, uL q2, uS, uL q3, uS, uL q4, uS] [(.ref a1)])) rfl rfl (hb hby d14_48)
  obtain ⟨T37, X37, e37, st37⟩ := getF X36 hx hZ hown (host := "") (Or.inl (own_w hw (i := 27) rfl)) Via.refl e36 f28 (g := (mkF m 52 #[uR a1, uL q2, uS, uL q3, uS, uL q4, uS] [(.ref a1), (.ref aM)])) rfl rfl (hb hby d14_52)
  obtain ⟨T38, X38, e38, st38⟩ := getF X37 hx hZ hown (host := "") (Or.inl (own_w hw (i := 27) rfl)) Via.refl e37 f28 (g := (mkF m 56 #[uR a1, uL q2, uS, uL q3, uS, uL q4, uS] [(.ref a1), (.int 3), (.ref aM)])) rfl rfl (hb hby d14_56)
  obtain ⟨T39, X39, e39, st39⟩ := getF X38 hx hZ hown (host := "") (Or.inl (own_w hw (i := 15) rfl)) Via.refl e38 f27 (g := (mkF m 70 #[uR a1, uL q2, uS, uL q3, uS, uL q4, uS] [(.ref a1), (.long q4), (.int 3), (.ref aM)])) rfl rfl (hb hby d14_70)
  obtain ⟨T40, X40, e40, st40⟩ := getF X39 hx hZ hown (host := "") (Or.inl (own_w hw (i := 27) rfl)) Via.refl e39 f28 (g := (mkF m 74 #[uR a1, uL q2, uS, uL q3, uS, uL q4, uS] [(.ref a1), (.ref aM), (.long q4), (.int 3), (.ref aM)])) rfl rfl (hb hby d14_74)
  obtain ⟨car41, Aar41, qar41, Sar41, Nar41, Har41, Gar41⟩ := id f31
  have hinar41 : ¬ ((2 : Int32) < 0 ∨ car41.slots.size ≤ ((2 : Int32)).toNatClampNeg) := inb_of Sar41 ⟨by decide, by decide⟩
  have hatar41 : car41.slots[((2 : Int32)).toNatClampNeg]? = some (.long x2) := Har41.at hinar41 rfl
  -- pc 80: Math.max by rmmj
  obtain ⟨_, _, ⟨T42, L42, ck42, cn42⟩, -, X42, ⟨Lc42, hQ42, l42, y42, z42⟩, st42⟩ := Jvm.LawKit.callS X40 hx (y := (⟨"java/lang/Math", "max", "(JJ)J"⟩ : MethodName)) hown (mvT hZ (own_w hw (i := 77) rfl)) (mvT hZ (own_w hw (i := 63) rfl)) (mvT hZ (own_w hw (i := 47) rfl)) (mvT hZ (own_w hw (i := 64) rfl)) (by decide) (backOf (W := 2) (rmmj l Z a0 hw [] q4 x2 h23 n0 zs34 ) hZ (own_w hw (i := 64) rfl) (own_w hw (i := 47) rfl) (by decide) (by decide)) (g := (mkF m 80 #[uR a1, uL q2, uS, uL q3, uS, uL q4, uS] [(.long x2), (.long q4), (.int 3), (.ref aM)])) rfl (by rw [hml]; rfl) (argsL := [(.long q4), (.long x2)]) (rest := [(.int 3), (.ref aM)]) (lenOf pd_157 rfl) rfl (by show 2 * 0 + _ ≤ _; exact Nat.le_of_eq rfl) (hb hby d14_80) (fun _ _ => ⟨rfl, e40, (by decide : 0 + 0 ≤ _), (by decide : 0 + 0 ≤ _)⟩)
  dsimp only [Pt.U, Pt.locs, Pt.cells, Pt.slots] at X42 l42 y42 z42 st42 hQ42
  subst y42 z42
  obtain ⟨rfl, N42q, e42⟩ := hQ42
  have N43 : Fr n0 L42 := by rw [l42]; exact Fr.app N35 N42q
  obtain ⟨car44, Aar44, qar44, Sar44, Nar44, Har44, Gar44⟩ := id f31
  have hinar44 : ¬ ((3 : Int32) < 0 ∨ car44.slots.size ≤ ((3 : Int32)).toNatClampNeg) := inb_of Sar44 ⟨by decide, by decide⟩
  obtain ⟨T45, h45, X45, e45, W45, st45⟩ := stJ X42 hx hZ e42 Aar44 (j := (3 : Int32)) hinar44 (g := (mkF m 83 #[uR a1, uL q2, uS, uL q3, uS, uL q4, uS] [(.long (fmj q4 x2)), (.int 3), (.ref aM)])) rfl rfl (hb hby d14_83)
  have V45 : Arv Z h45 aM kM .long (8 : Int32) [(.long x0), (.long x1), (.long x2), (.long (fmj q4 x2)), (.long x4), (.long x5), (.long x6), (.long x7)] (.long 0) := Arv.set Aar44 qar44 Sar44 Nar44 Har44 Gar44 rfl W45 3 rfl (Nat.le_of_ble_eq_true rfl)
  have f46 := f24.wr W45
  have f47 := f25.other W45 (Or.inl ne_a1_aM)
  have f48 := f26.other W45 (Or.inl ne_a1_aM)
  have f49 := f27.other W45 (Or.inl ne_a1_aM)
  have f50 := f28.other W45 (Or.inl ne_a1_aM)
  have f51 := f29.other W45 (Or.inl ne_a1_aM)
  have f53 := f32.other W45 ne_aB_aM
  have f54 := V23.other W45 ne_aP_aM
  have K55 := K33.wr W45 (Or.inl (List.mem_of_getElem? (i := 3) rfl))
  have N57 := Fr.snoc X45 N43 g_aM
  obtain ⟨T58, X58, e58, st58⟩ := getF X45 hx hZ hown (host := "") (Or.inl (own_w hw (i := 27) rfl)) Via.refl e45 f50 (g := (mkF m 86 #[uR a1, uL q2, uS, uL q3, uS, uL q4, uS] [(.ref a1), (.ref a1)])) rfl rfl (hb hby d14_86)
  obtain ⟨T59, h59, X59, e59, W59, st59⟩ := putF X58 hx hZ hown (host := "") (Or.inl (own_w hw (i := 27) rfl)) Via.refl e58 f50 f46 (Or.inl (own_w hw (i := 28) rfl)) (own_w hw (i := 1) rfl) (ty := .int) (by decide) rfl rfl (g := (mkF m 91 #[uR a1, uL q2, uS, uL q3, uS, uL q4, uS] [(.int 4), (.ref a1)])) rfl rfl (hb hby d14_91)
  have f60 := f46.wr W59
  have f61 := f47.other W59 (Or.inr (sn_143 hw))
  have f62 := f48.other W59 (Or.inr (sn_144 hw))
  have f63 := f49.other W59 (Or.inr (sn_145 hw))
  have f64 := f50.same W59
  have f65 := f51.other W59 (Or.inr (sn_146 hw))
  have f66 := f53.other W59 (Ne.symm ne_a1_aB)
  have f67 := f54.other W59 (Ne.symm ne_a1_aP)
  have f68 := V45.other W59 (Ne.symm ne_a1_aM)
  have K69 := K55.wr W59 (Or.inl (List.mem_of_getElem? (i := 0) rfl))
  have N71 := Fr.snoc X59 N57 g_a1
  obtain ⟨fs, hr, hrun, hended, hW, hsame⟩ := X59.leave (v := none) (fun _ => rfl) Bd.notSynchronized
  refine ⟨_, _, pre0 _ ?_, hrun, hended, _, _, rfl, ?_, ⟨_, rfl⟩, hW, hsame.mono (by decide) (by decide)⟩
  · show Steps p.tables e below (s₁.setTop (mkF m 0 #[uR a1, uL q2, uS, uL q3, uS, uL q4, uS] [])) _
    refine XS.aloadN X0.here hx rfl (hb hby d14_0) rfl rfl ?_
    refine st1 _ ?_
    refine XS.aloadN X1.here hx rfl (hb hby d14_4) rfl rfl ?_
    refine st2 _ ?_
    refine X2.arraylength hx (by rw [e2]; exact Aar3.1) (State.isArrayOf_alike hZ.alike Aar3.2.1) (g := (mkF m 8 #[uR a1, uL q2, uS, uL q3, uS, uL q4, uS] [(.ref aB), (.int 3)])) rfl rfl (hb hby d14_8) _ ?_
    rw [len_of Sar3 Nar3]
    show Steps p.tables e below (T2.setTop (mkF m 9 #[uR a1, uL q2, uS, uL q3, uS, uL q4, uS] [(.int 8), (.int 3)])) _
    refine XS.icmpYes X2.here hx rfl (pc0 := 9) (pc' := 27) rfl (hb hby d14_9) rfl (feq (by decide : ¬ ((3 : Int32) = (8 : Int32)))).2 (by decide) (by decide) ?_
    refine XS.aloadN X2.here hx rfl (hb hby d14_27) rfl rfl ?_
    refine st4 _ ?_
    refine XS.aloadN X4.here hx rfl (hb hby d14_31) rfl rfl ?_
    refine st5 _ ?_
    refine XS.lloadN X5.here hx rfl (hb hby d14_35) rfl ?_
    refine st7 _ ?_
    refine XS.aloadN X7.here hx rfl (hb hby d14_37) rfl rfl ?_
    refine st20 _ ?_
    refine XS.aloadN X20.here hx rfl (hb hby d14_41) rfl rfl ?_
    refine st21 _ ?_
    show Steps p.tables e below (T21.setTop (mkF m 45 #[uR a1, uL q2, uS, uL q3, uS, uL q4, uS] [(.int 3), (.ref aP)])) _
    refine XS.lloadN X21.here hx rfl (hb hby d14_45) rfl ?_
    refine st23 _ ?_
    refine XS.aloadN X23.here hx rfl (hb hby d14_47) rfl rfl ?_
    refine st36 _ ?_
    refine XS.aloadN X36.here hx rfl (hb hby d14_51) rfl rfl ?_
    refine st37 _ ?_
    refine XS.aloadN X37.here hx rfl (hb hby d14_55) rfl rfl ?_
    refine st38 _ ?_
    show Steps p.tables e below (T38.setTop (mkF m 59 #[uR a1, uL q2, uS, uL q3, uS, uL q4, uS] [(.int 3), (.int 3), (.ref aM)])) _
    refine XS.ifYes X38.here hx rfl (pc0 := 59) (pc' := 67) rfl (hb hby d14_59) rfl ((if0 _ _).trans (feq (by decide : ¬ ((3 : Int32) = (0 : Int32)))).2) (by decide) (by decide) ?_
    refine XS.lload X38.here hx rfl (hb hby d14_67) rfl ?_
    refine XS.aloadN X38.here hx rfl (hb hby d14_69) rfl rfl ?_
    refine st39 _ ?_
    refine XS.aloadN X39.here hx rfl (hb hby d14_73) rfl rfl ?_
    refine st40 _ ?_
    refine XS.iconst X40.here hx rfl (hb hby d14_77) ?_
    refine XS.isub X40.here hx rfl (hb hby d14_78) rfl ?_
    show Steps p.tables e below (T40.setTop (mkF m 79 #[uR a1, uL q2, uS, uL q3, uS, uL q4, uS] [(.int 2), (.ref aM), (.long q4), (.int 3), (.ref aM)])) _
    refine X40.laload hx (j := (2 : Int32)) (v := (.long x2)) (by rw [e40]; exact Aar41.1) (State.isArrayOf_alike hZ.alike Aar41.2.1) Aar41.2.2 hinar41 hatar41 (g := (mkF m 79 #[uR a1, uL q2, uS, uL q3, uS, uL q4, uS] [(.int 2), (.ref aM), (.long q4), (.int 3), (.ref aM)])) rfl rfl (hb hby d14_79) _ ?_
    refine st42 _ ?_
    refine st45 _ ?_
    refine XS.aloadN X45.here hx rfl (hb hby d14_84) rfl rfl ?_
    refine XS.dup X45.here hx rfl (hb hby d14_85) rfl rfl ?_
    refine st58 _ ?_
    refine XS.iconst X58.here hx rfl (hb hby d14_89) ?_
    refine XS.iadd X58.here hx rfl (hb hby d14_90) rfl ?_
    refine st59 _ ?_
    exact X59.returnOut hx Bd.returns (hb hby d14_94) hr
  · show Qad3 Z a1 q2 q3 q4 aB aP aM kB kP kM fz b0 b1 b2 b3 b4 b5 b6 b7 c0 c1 c2 c3 c4 c5 c6 c7 x0 x1 x2 x3 x4 x5 x6 x7 h0 n0 _ T59.heap _
    rw [e59]
    exact ⟨rfl, N71, K69, f60, f61, f62, f63, f64, f65, f66, f67, f68⟩
theorem d7_0 : decode jdk_65_method_56_code 0 = .ok (.iload_n 1, 1) := by decide +kernel
theorem d7_1 : decode jdk_65_method_56_code 1 = .ok (.istore 5, 2) := by decide +kernel
theorem d7_3 : decode jdk_65_method_56_code 3 = .ok (.iload_n 2, 1) := by decide +kernel
theorem d7_4 : decode jdk_65_method_56_code 4 = .ok (.iconst 1, 1) := by decide +kernel
theorem d7_5 : decode jdk_65_method_56_code 5 = .ok (.isub, 1) := by decide +kernel
theorem d7_6 : decode jdk_65_method_56_code 6 = .ok (.istore 6, 2) := by decide +kernel
theorem d7_8 : decode jdk_65_method_56_code 8 = .ok (.iload 5, 2) := by decide +kernel
theorem d7_10 : decode jdk_65_method_56_code 10 = .ok (.iload 6, 2) := by decide +kernel
theorem d7_12 : decode jdk_65_method_56_code 12 = .ok (.if_icmp .gt 56, 3) := by decide +kernel
theorem d7_68 : decode jdk_65_method_56_code 68 = .ok (.iload 5, 2) := by decide +kernel
theorem d7_70 : decode jdk_65_method_56_code 70 = .ok (.iconst 1, 1) := by decide +kernel
theorem d7_71 : decode jdk_65_method_56_code 71 = .ok (.iadd, 1) := by decide +kernel
theorem d7_72 : decode jdk_65_method_56_code 72 = .ok (.ineg, 1) := by decide +kernel
theorem d7_73 : decode jdk_65_method_56_code 73 = .ok (.ireturn, 1) := by decide +kernel
theorem ef_b0_0 (m : MethodId) (x0 : Addr) (x1 : Int32) (x2 : Int32) (x3 : Int64) : entryFrame m #[(.ref x0), (.int x1), (.int x2), (.long x3)] 10 = mkF m 0 #[.val (.ref x0), .val (.int x1), .val (.int x2), .val (.long x3), .second, .unset, .unset, .unset, .unset, .unset] [] := by first | (simp [entryFrame, mkF, argsToLocals, Value.category]; done) | rfl
abbrev R_b0_0 : Room := { frames := 0, cells := 0, slots := 0, locals := 0 }
def Qb0_0 (Z : State) (a1 : Addr) (q4 : Int64) (k1 : ClassId) (h0 : Heap) (n0 : Nat) (v : Option Value) (h : Heap) (L : List Loc) : Prop := v = some (.int (-1)) ∧ Fr n0 L ∧ h = h0
set_option maxRecDepth 65536 in
set_option maxHeartbeats 40000000 in
theorem rmb0_0 (l : Launch) (Z : State) (a0 : Array Value) (hw : ∀ d ∈ tables_1, d.before a0 Z = true) (ws : List Jvm.Cond) (a1 : Addr) (q4 : Int64) (k1 : ClassId) (h0 : Heap) (n0 : Nat) (Z0 : n0 ≤ h0.size) (V_a1 : Arv Z h0 a1 k1 .long (0 : Int32) [] (.long 0)) :
    MetFree l (⟨"java/util/Arrays", "binarySearch0", "([JIIJ)I"⟩ : MethodName) (head1 (Jvm.Cond.code (⟨"java/util/Arrays", "binarySearch0", "([JIIJ)I"⟩ : MethodName) jdk_65_method_56_code 10 (some .int) :: ws) R_b0_0) (fun a U => a = #[(.ref a1), (.int 0), (.int 0), (.long q4)] ∧ Z.Warmed39 U.vm ∧ U.heap = h0) (fun _ _ _ _ _ => True) (fun _ U o U' => ∃ v L, o = .returned v ∧ Qb0_0 Z a1 q4 k1 h0 n0 v U'.heap L ∧ FrameEnd U o U' L R_b0_0.cells R_b0_0.slots) := by
  refine MetFree.of_bodySF (plainFor_of_name pn_22) hisR ?_
  intro p e s m args below meth c s₁ Bd hml0 hP hK
  obtain ⟨rfl, hZ, hh⟩ := hP
  have hx := Bd.exec
  have hby := Bd.bytes
  have hml : c.maxLocals = 10 := hml0
  have hown : s.vm.findClass "java/util/Arrays" = some m.cls := findClass_of_methodNamed Bd.named
  have hnm := (name_of_methodNamed Bd.named Bd.method).1
  have X0 : Stand p l e R_b0_0 s m #[(.ref a1), (.int 0), (.int 0), (.long q4)] below meth c s₁ [] 0 0 := Stand.of_body Bd
  have e0 : s₁.heap = h0 := by rw [← hh, Bd.state]; rfl
  have N0 := Fr.nil n0
  have pre0 : ∀ t, Steps p.tables e below (s₁.setTop (mkF m 0 #[uR a1, uI 0, uI 0, uL q4, uS, uU, uU, uU, uU, uU] [])) t → Steps p.tables e below (s₁.setTop (entryFrame m #[(.ref a1), (.int 0), (.int 0), (.long q4)] 10)) t := fun t k => castTop (ef_b0_0 m a1 (0 : Int32) (0 : Int32) q4) k
  obtain ⟨fs, hr, hrun, hended, hW, hsame⟩ := X0.leave (v := some (.int (-1))) (fun h => by rw [Bd.returns] at h; cases h) Bd.notSynchronized
  refine ⟨_, _, pre0 _ ?_, hrun, hended, _, _, rfl, ?_, ⟨_, rfl⟩, hW, hsame.mono (by decide) (by decide)⟩
  · show Steps p.tables e below (s₁.setTop (mkF m 0 #[uR a1, uI 0, uI 0, uL q4, uS, uU, uU, uU, uU, uU] [])) _
    refine XS.iloadN X0.here hx rfl (hb hby d7_0) rfl ?_
    refine XS.istore X0.here hx rfl (hb hby d7_1) rfl (l' := #[uR a1, uI 0, uI 0, uL q4, uS, uI 0, uU, uU, uU, uU]) rfl ?_
    refine XS.iloadN X0.here hx rfl (hb hby d7_3) rfl ?_
    refine XS.iconst X0.here hx rfl (hb hby d7_4) ?_
    refine XS.isub X0.here hx rfl (hb hby d7_5) rfl ?_
    refine XS.istore X0.here hx rfl (hb hby d7_6) rfl (l' := #[uR a1, uI 0, uI 0, uL q4, uS, uI 0, uI (-1 : Int32), uU, uU, uU]) rfl ?_
    refine XS.iload X0.here hx rfl (hb hby d7_8) rfl ?_
    refine XS.iload X0.here hx rfl (hb hby d7_10) rfl ?_
    show Steps p.tables e below (s₁.setTop (mkF m 12 #[uR a1, uI 0, uI 0, uL q4, uS, uI 0, uI (-1 : Int32), uU, uU, uU] [(.int (-1)), (.int 0)])) _
    refine XS.icmpYes X0.here hx rfl (pc0 := 12) (pc' := 68) rfl (hb hby d7_12) rfl (tlt (by decide : (-1 : Int32) < (0 : Int32))).2.2.1 (by decide) (by decide) ?_
    refine XS.iload X0.here hx rfl (hb hby d7_68) rfl ?_
    refine XS.iconst X0.here hx rfl (hb hby d7_70) ?_
    refine XS.iadd X0.here hx rfl (hb hby d7_71) rfl ?_
    refine XS.ineg X0.here hx rfl (hb hby d7_72) rfl ?_
    exact retI X0 hx Bd.returns (hb hby d7_73) hr
  · show Qb0_0 Z a1 q4 k1 h0 n0 _ s₁.heap _
    rw [e0]
    exact ⟨rfl, N0, rfl⟩
theorem d5_0 : decode jdk_65_method_55_code 0 = .ok (.aload_n 0, 1) := by decide +kernel
theorem d5_1 : decode jdk_65_method_55_code 1 = .ok (.arraylength, 1) := by decide +kernel
theorem d5_2 : decode jdk_65_method_55_code 2 = .ok (.iload_n 1, 1) := by decide +kernel
theorem d5_3 : decode jdk_65_method_55_code 3 = .ok (.iload_n 2, 1) := by decide +kernel
theorem d5_4 : decode jdk_65_method_55_code 4 = .ok (.invokestatic 13, 3) := by decide +kernel
theorem pd_177 : parseMethodDescriptor "(III)V" = some ⟨[.int, .int, .int], none⟩ := by decide +kernel
theorem d5_7 : decode jdk_65_method_55_code 7 = .ok (.aload_n 0, 1) := by decide +kernel
theorem d5_8 : decode jdk_65_method_55_code 8 = .ok (.iload_n 1, 1) := by decide +kernel
theorem d5_9 : decode jdk_65_method_55_code 9 = .ok (.iload_n 2, 1) := by decide +kernel
theorem d5_10 : decode jdk_65_method_55_code 10 = .ok (.lload_n 3, 1) := by decide +kernel
theorem d5_11 : decode jdk_65_method_55_code 11 = .ok (.invokestatic 205, 3) := by decide +kernel
theorem pd_183 : parseMethodDescriptor "([JIIJ)I" = some ⟨[(.array .long), .int, .int, .long], some .int⟩ := by decide +kernel
theorem d5_14 : decode jdk_65_method_55_code 14 = .ok (.ireturn, 1) := by decide +kernel
theorem ef_bs_0 (m : MethodId) (x0 : Addr) (x1 : Int32) (x2 : Int32) (x3 : Int64) : entryFrame m #[(.ref x0), (.int x1), (.int x2), (.long x3)] 5 = mkF m 0 #[.val (.ref x0), .val (.int x1), .val (.int x2), .val (.long x3), .second] [] := by first | (simp [entryFrame, mkF, argsToLocals, Value.category]; done) | rfl
abbrev R_bs_0 : Room := { frames := 1, cells := 0, slots := 0, locals := 21 }
def Qbs_0 (Z : State) (a1 : Addr) (q4 : Int64) (k1 : ClassId) (h0 : Heap) (n0 : Nat) (v : Option Value) (h : Heap) (L : List Loc) : Prop := v = some (.int (-1)) ∧ Fr n0 L ∧ h = h0
set_option maxRecDepth 65536 in
set_option maxHeartbeats 40000000 in
theorem rmbs_0 (l : Launch) (Z : State) (a0 : Array Value) (hw : ∀ d ∈ tables_1, d.before a0 Z = true) (ws : List Jvm.Cond) (a1 : Addr) (q4 : Int64) (k1 : ClassId) (h0 : Heap) (n0 : Nat) (Z0 : n0 ≤ h0.size) (V_a1 : Arv Z h0 a1 k1 .long (0 : Int32) [] (.long 0)) :
    MetFree l (⟨"java/util/Arrays", "binarySearch", "([JIIJ)I"⟩ : MethodName) (head1 (Jvm.Cond.code (⟨"java/util/Arrays", "binarySearch", "([JIIJ)I"⟩ : MethodName) jdk_65_method_55_code 5 (some .int) :: ws) R_bs_0) (fun a U => a = #[(.ref a1), (.int 0), (.int 0), (.long q4)] ∧ Z.Warmed39 U.vm ∧ U.heap = h0) (fun _ _ _ _ _ => True) (fun _ U o U' => ∃ v L, o = .returned v ∧ Qbs_0 Z a1 q4 k1 h0 n0 v U'.heap L ∧ FrameEnd U o U' L R_bs_0.cells R_bs_0.slots) := by
  refine MetFree.of_bodySF (plainFor_of_name pn_22) hisR ?_
  intro p e s m args below meth c s₁ Bd hml0 hP hK
  obtain ⟨rfl, hZ, hh⟩ := hP
  have hx := Bd.exec
  have hby := Bd.bytes
  have hml : c.maxLocals = 5 := hml0
  have hown : s.vm.findClass "java/util/Arrays" = some m.cls := findClass_of_methodNamed Bd.named
  have hnm := (name_of_methodNamed Bd.named Bd.method).1
  have X0 : Stand p l e R_bs_0 s m #[(.ref a1), (.int 0), (.int 0), (.long q4)] below meth c s₁ [] 0 0 := Stand.of_body Bd
  have e0 : s₁.heap = h0 := by rw [← hh, Bd.state]; rfl
  have N0 := Fr.nil n0
  have pre0 : ∀ t, Steps p.tables e below (s₁.setTop (mkF m 0 #[uR a1, uI 0, uI 0, uL q4, uS] [])) t → Steps p.tables e below (s₁.setTop (entryFrame m #[(.ref a1), (.int 0), (.int 0), (.long q4)] 5)) t := fun t k => castTop (ef_bs_0 m a1 (0 : Int32) (0 : Int32) q4) k
  obtain ⟨car1, Aar1, qar1, Sar1, Nar1, Har1, Gar1⟩ := id V_a1
  -- pc 4: Arrays.rangeCheck by rmrc
  obtain ⟨_, _, ⟨T2, L2, ck2, cn2⟩, -, X2, ⟨Lc2, hQ2, l2, y2, z2⟩, st2⟩ := Jvm.LawKit.callS X0 hx (y := (⟨"java/util/Arrays", "rangeCheck", "(III)V"⟩ : MethodName)) hown (mvT hZ (own_w hw (i := 33) rfl)) (mvT hZ (own_w hw (i := 34) rfl)) (mvT hZ (own_w hw (i := 31) rfl)) (mvT hZ (own_w hw (i := 35) rfl)) (by decide) (backOf (W := 0) (rmrc l Z a0 hw [] (0 : Int32) (0 : Int32) (0 : Int32) h0 n0 Z0 (by decide) (by decide) (by decide)) hZ (own_w hw (i := 35) rfl) (own_w hw (i := 31) rfl) (by decide) (by decide)) (g := (mkF m 4 #[uR a1, uI 0, uI 0, uL q4, uS] [(.int 0), (.int 0), (.int 0)])) rfl (by rw [hml]; rfl) (argsL := [(.int 0), (.int 0), (.int 0)]) (rest := []) (lenOf pd_177 rfl) rfl (by show 2 * 0 + _ ≤ _; exact Nat.le_of_eq rfl) (hb hby d5_4) (fun _ _ => ⟨rfl, e0, (by decide : 0 + 0 ≤ _), (by decide : 0 + 0 ≤ _)⟩)
  dsimp only [Pt.U, Pt.locs, Pt.cells, Pt.slots] at X2 l2 y2 z2 st2 hQ2
  subst y2 z2
  obtain ⟨rfl, N2q, e2⟩ := hQ2
  have N3 : Fr n0 L2 := by rw [l2]; exact Fr.app N0 N2q
  -- pc 11: Arrays.binarySearch0 by rmb0_0
  obtain ⟨_, _, ⟨T4, L4, ck4, cn4⟩, -, X4, ⟨Lc4, hQ4, l4, y4, z4⟩, st4⟩ := Jvm.LawKit.callS X2 hx (y := (⟨"java/util/Arrays", "binarySearch0", "([JIIJ)I"⟩ : MethodName)) hown (mvT hZ (own_w hw (i := 36) rfl)) (mvT hZ (own_w hw (i := 37) rfl)) (mvT hZ (own_w hw (i := 31) rfl)) (mvT hZ (own_w hw (i := 38) rfl)) (by decide) (backOf (W := 0) (rmb0_0 l Z a0 hw [] a1 q4 k1 h0 n0 Z0 V_a1) hZ (own_w hw (i := 38) rfl) (own_w hw (i := 31) rfl) (by decide) (by decide)) (g := (mkF m 11 #[uR a1, uI 0, uI 0, uL q4, uS] [(.long q4), (.int 0), (.int 0), (.ref a1)])) rfl (by rw [hml]; rfl) (argsL := [(.ref a1), (.int 0), (.int 0), (.long q4)]) (rest := []) (lenOf pd_183 rfl) rfl (by show 2 * 0 + _ ≤ _; exact Nat.le_of_eq rfl) (hb hby d5_11) (fun _ _ => ⟨rfl, e2, (by decide : 0 + 0 ≤ _), (by decide : 0 + 0 ≤ _)⟩)
  dsimp only [Pt.U, Pt.locs, Pt.cells, Pt.slots] at X4 l4 y4 z4 st4 hQ4
  subst y4 z4
  obtain ⟨rfl, N4q, e4⟩ := hQ4
  have N5 : Fr n0 L4 := by rw [l4]; exact Fr.app N3 N4q
  obtain ⟨fs, hr, hrun, hended, hW, hsame⟩ := X4.leave (v := some (.int (-1))) (fun h => by rw [Bd.returns] at h; cases h) Bd.notSynchronized
  refine ⟨_, _, pre0 _ ?_, hrun, hended, _, _, rfl, ?_, ⟨_, rfl⟩, hW, hsame.mono (by decide) (by decide)⟩
  · show Steps p.tables e below (s₁.setTop (mkF m 0 #[uR a1, uI 0, uI 0, uL q4, uS] [])) _
    refine XS.aloadN X0.here hx rfl (hb hby d5_0) rfl rfl ?_
    refine X0.arraylength hx (by rw [e0]; exact Aar1.1) (State.isArrayOf_alike hZ.alike Aar1.2.1) (g := (mkF m 1 #[uR a1, uI 0, uI 0, uL q4, uS] [(.ref a1)])) rfl rfl (hb hby d5_1) _ ?_
    rw [len_of Sar1 Nar1]
    refine XS.iloadN X0.here hx rfl (hb hby d5_2) rfl ?_
    refine XS.iloadN X0.here hx rfl (hb hby d5_3) rfl ?_
    refine st2 _ ?_
    refine XS.aloadN X2.here hx rfl (hb hby d5_7) rfl rfl ?_
    refine XS.iloadN X2.here hx rfl (hb hby d5_8) rfl ?_
    refine XS.iloadN X2.here hx rfl (hb hby d5_9) rfl ?_
    refine XS.lloadN X2.here hx rfl (hb hby d5_10) rfl ?_
    refine st4 _ ?_
    exact retI X4 hx Bd.returns (hb hby d5_14) hr
  · show Qbs_0 Z a1 q4 k1 h0 n0 _ T4.heap _
    rw [e4]
    exact ⟨rfl, N5, rfl⟩
theorem d4_0 : decode prog_126_method_14_code 0 = .ok (.aload_n 1, 1) := by decide +kernel
theorem d4_1 : decode prog_126_method_14_code 1 = .ok (.iconst 0, 1) := by decide +kernel
theorem d4_2 : decode prog_126_method_14_code 2 = .ok (.aload_n 0, 1) := by decide +kernel
theorem d4_3 : decode prog_126_method_14_code 3 = .ok (.getfield 22, 3) := by decide +kernel
theorem d4_6 : decode prog_126_method_14_code 6 = .ok (.lload_n 2, 1) := by decide +kernel
theorem d4_7 : decode prog_126_method_14_code 7 = .ok (.invokestatic 66, 3) := by decide +kernel
theorem d4_10 : decode prog_126_method_14_code 10 = .ok (.istore 4, 2) := by decide +kernel
theorem d4_12 : decode prog_126_method_14_code 12 = .ok (.iload 4, 2) := by decide +kernel
theorem d4_14 : decode prog_126_method_14_code 14 = .ok (.ifCond .lt 8, 3) := by decide +kernel
theorem d4_22 : decode prog_126_method_14_code 22 = .ok (.iload 4, 2) := by decide +kernel
theorem d4_24 : decode prog_126_method_14_code 24 = .ok (.ineg, 1) := by decide +kernel
theorem d4_25 : decode prog_126_method_14_code 25 = .ok (.iconst 2, 1) := by decide +kernel
theorem d4_26 : decode prog_126_method_14_code 26 = .ok (.isub, 1) := by decide +kernel
theorem d4_27 : decode prog_126_method_14_code 27 = .ok (.ireturn, 1) := by decide +kernel
theorem ef_la_0 (m : MethodId) (x0 : Addr) (x1 : Addr) (x2 : Int64) : entryFrame m #[(.ref x0), (.ref x1), (.long x2)] 5 = mkF m 0 #[.val (.ref x0), .val (.ref x1), .val (.long x2), .second, .unset] [] := by first | (simp [entryFrame, mkF, argsToLocals, Value.category]; done) | rfl
abbrev R_la_0 : Room := { frames := 2, cells := 0, slots := 0, locals := 37 }
def Qla_0 (Z : State) (a1 : Addr) (a2 : Addr) (q3 : Int64) (k1 : ClassId) (h0 : Heap) (n0 : Nat) (v : Option Value) (h : Heap) (L : List Loc) : Prop := v = some (.int (-1)) ∧ Fr n0 L ∧ h = h0
set_option maxRecDepth 65536 in
set_option maxHeartbeats 40000000 in
theorem rmla_0 (l : Launch) (Z : State) (a0 : Array Value) (hw : ∀ d ∈ tables_1, d.before a0 Z = true) (ws : List Jvm.Cond) (a1 : Addr) (a2 : Addr) (q3 : Int64) (k1 : ClassId) (h0 : Heap) (n0 : Nat) (Z0 : n0 ≤ h0.size) (F_count_a1 : Fld Z h0 a1 KC "count" "I" (.int 0)) (V_a2 : Arv Z h0 a2 k1 .long (0 : Int32) [] (.long 0)) :
    MetFree l (⟨KC, "lastAtOrBefore", "([JJ)I"⟩ : MethodName) (head1 (Jvm.Cond.code (⟨KC, "lastAtOrBefore", "([JJ)I"⟩ : MethodName) prog_126_method_14_code 5 (some .int) :: ws) R_la_0) (fun a U => a = #[(.ref a1), (.ref a2), (.long q3)] ∧ Z.Warmed39 U.vm ∧ U.heap = h0) (fun _ _ _ _ _ => True) (fun _ U o U' => ∃ v L, o = .returned v ∧ Qla_0 Z a1 a2 q3 k1 h0 n0 v U'.heap L ∧ FrameEnd U o U' L R_la_0.cells R_la_0.slots) := by
  refine MetFree.of_bodySF (plainFor_of_name pn_55) hisR ?_
  intro p e s m args below meth c s₁ Bd hml0 hP hK
  obtain ⟨rfl, hZ, hh⟩ := hP
  have hx := Bd.exec
  have hby := Bd.bytes
  have hml : c.maxLocals = 5 := hml0
  have hown : s.vm.findClass KC = some m.cls := findClass_of_methodNamed Bd.named
  have hnm := (name_of_methodNamed Bd.named Bd.method).1
  have X0 : Stand p l e R_la_0 s m #[(.ref a1), (.ref a2), (.long q3)] below meth c s₁ [] 0 0 := Stand.of_body Bd
  have e0 : s₁.heap = h0 := by rw [← hh, Bd.state]; rfl
  have N0 := Fr.nil n0
  have pre0 : ∀ t, Steps p.tables e below (s₁.setTop (mkF m 0 #[uR a1, uR a2, uL q3, uS, uU] [])) t → Steps p.tables e below (s₁.setTop (entryFrame m #[(.ref a1), (.ref a2), (.long q3)] 5)) t := fun t k => castTop (ef_la_0 m a1 a2 q3) k
  obtain ⟨T1, X1, e1, st1⟩ := getF X0 hx hZ hown (host := "") (Or.inl (own_w hw (i := 27) rfl)) Via.refl e0 F_count_a1 (g := (mkF m 3 #[uR a1, uR a2, uL q3, uS, uU] [(.ref a1), (.int 0), (.ref a2)])) rfl rfl (hb hby d4_3)
  -- pc 7: Arrays.binarySearch by rmbs_0
  obtain ⟨_, _, ⟨T2, L2, ck2, cn2⟩, -, X2, ⟨Lc2, hQ2, l2, y2, z2⟩, st2⟩ := Jvm.LawKit.callS X1 hx (y := (⟨"java/util/Arrays", "binarySearch", "([JIIJ)I"⟩ : MethodName)) hown (mvT hZ (own_w hw (i := 29) rfl)) (mvT hZ (own_w hw (i := 30) rfl)) (mvT hZ (own_w hw (i := 31) rfl)) (mvT hZ (own_w hw (i := 32) rfl)) (by decide) (backOf (W := 0) (rmbs_0 l Z a0 hw [] a2 q3 k1 h0 n0 Z0 V_a2) hZ (own_w hw (i := 32) rfl) (own_w hw (i := 31) rfl) (by decide) (by decide)) (g := (mkF m 7 #[uR a1, uR a2, uL q3, uS, uU] [(.long q3), (.int 0), (.int 0), (.ref a2)])) rfl (by rw [hml]; rfl) (argsL := [(.ref a2), (.int 0), (.int 0), (.long q3)]) (rest := []) (lenOf pd_183 rfl) rfl (by show 2 * 0 + _ ≤ _; exact Nat.le_of_eq rfl) (hb hby d4_7) (fun _ _ => ⟨rfl, e1, (by decide : 0 + 0 ≤ _), (by decide : 0 + 0 ≤ _)⟩)
  dsimp only [Pt.U, Pt.locs, Pt.cells, Pt.slots] at X2 l2 y2 z2 st2 hQ2
  subst y2 z2
  obtain ⟨rfl, N2q, e2⟩ := hQ2
  have N3 : Fr n0 L2 := by rw [l2]; exact Fr.app N0 N2q
  obtain ⟨fs, hr, hrun, hended, hW, hsame⟩ := X2.leave (v := some (.int (-1))) (fun h => by rw [Bd.returns] at h; cases h) Bd.notSynchronized
  refine ⟨_, _, pre0 _ ?_, hrun, hended, _, _, rfl, ?_, ⟨_, rfl⟩, hW, hsame.mono (by decide) (by decide)⟩
  · show Steps p.tables e below (s₁.setTop (mkF m 0 #[uR a1, uR a2, uL q3, uS, uU] [])) _
    refine XS.aloadN X0.here hx rfl (hb hby d4_0) rfl rfl ?_
    refine XS.iconst X0.here hx rfl (hb hby d4_1) ?_
    refine XS.aloadN X0.here hx rfl (hb hby d4_2) rfl rfl ?_
    refine st1 _ ?_
    refine XS.lloadN X1.here hx rfl (hb hby d4_6) rfl ?_
    refine st2 _ ?_
    refine XS.istore X2.here hx rfl (hb hby d4_10) rfl (l' := #[uR a1, uR a2, uL q3, uS, uI (-1 : Int32)]) rfl ?_
    refine XS.iload X2.here hx rfl (hb hby d4_12) rfl ?_
    show Steps p.tables e below (T2.setTop (mkF m 14 #[uR a1, uR a2, uL q3, uS, uI (-1 : Int32)] [(.int (-1))])) _
    refine XS.ifYes X2.here hx rfl (pc0 := 14) (pc' := 22) rfl (hb hby d4_14) rfl ((if0 _ _).trans (tlt (by decide : (-1 : Int32) < (0 : Int32))).1) (by decide) (by decide) ?_
    refine XS.iload X2.here hx rfl (hb hby d4_22) rfl ?_
    refine XS.ineg X2.here hx rfl (hb hby d4_24) rfl ?_
    refine XS.iconst X2.here hx rfl (hb hby d4_25) ?_
    refine XS.isub X2.here hx rfl (hb hby d4_26) rfl ?_
    exact retI X2 hx Bd.returns (hb hby d4_27) hr
  · show Qla_0 Z a1 a2 q3 k1 h0 n0 _ T2.heap _
    rw [e2]
    exact ⟨rfl, N3, rfl⟩
theorem d7_15 : decode jdk_65_method_56_code 15 = .ok (.iload 5, 2) := by decide +kernel
theorem d7_17 : decode jdk_65_method_56_code 17 = .ok (.iload 6, 2) := by decide +kernel
theorem d7_19 : decode jdk_65_method_56_code 19 = .ok (.iadd, 1) := by decide +kernel
theorem d7_20 : decode jdk_65_method_56_code 20 = .ok (.iconst 1, 1) := by decide +kernel
theorem d7_21 : decode jdk_65_method_56_code 21 = .ok (.iushr, 1) := by decide +kernel
theorem d7_22 : decode jdk_65_method_56_code 22 = .ok (.istore 7, 2) := by decide +kernel
theorem d7_24 : decode jdk_65_method_56_code 24 = .ok (.aload_n 0, 1) := by decide +kernel
theorem d7_25 : decode jdk_65_method_56_code 25 = .ok (.iload 7, 2) := by decide +kernel
theorem d7_27 : decode jdk_65_method_56_code 27 = .ok (.laload, 1) := by decide +kernel
theorem d7_28 : decode jdk_65_method_56_code 28 = .ok (.lstore 8, 2) := by decide +kernel
theorem d7_30 : decode jdk_65_method_56_code 30 = .ok (.lload 8, 2) := by decide +kernel
theorem d7_32 : decode jdk_65_method_56_code 32 = .ok (.lload_n 3, 1) := by decide +kernel
theorem d7_33 : decode jdk_65_method_56_code 33 = .ok (.lcmp, 1) := by decide +kernel
theorem d7_34 : decode jdk_65_method_56_code 34 = .ok (.ifCond .ge 12, 3) := by decide +kernel
theorem d7_37 : decode jdk_65_method_56_code 37 = .ok (.iload 7, 2) := by decide +kernel
theorem d7_39 : decode jdk_65_method_56_code 39 = .ok (.iconst 1, 1) := by decide +kernel
theorem d7_40 : decode jdk_65_method_56_code 40 = .ok (.iadd, 1) := by decide +kernel
theorem d7_41 : decode jdk_65_method_56_code 41 = .ok (.istore 5, 2) := by decide +kernel
theorem d7_43 : decode jdk_65_method_56_code 43 = .ok (.goto 22, 3) := by decide +kernel
theorem d7_65 : decode jdk_65_method_56_code 65 = .ok (.goto (-57), 3) := by decide +kernel
theorem d7_46 : decode jdk_65_method_56_code 46 = .ok (.lload 8, 2) := by decide +kernel
theorem d7_48 : decode jdk_65_method_56_code 48 = .ok (.lload_n 3, 1) := by decide +kernel
theorem d7_49 : decode jdk_65_method_56_code 49 = .ok (.lcmp, 1) := by decide +kernel
theorem d7_50 : decode jdk_65_method_56_code 50 = .ok (.ifCond .le 12, 3) := by decide +kernel
theorem d7_53 : decode jdk_65_method_56_code 53 = .ok (.iload 7, 2) := by decide +kernel
theorem d7_55 : decode jdk_65_method_56_code 55 = .ok (.iconst 1, 1) := by decide +kernel
theorem d7_56 : decode jdk_65_method_56_code 56 = .ok (.isub, 1) := by decide +kernel
theorem d7_57 : decode jdk_65_method_56_code 57 = .ok (.istore 6, 2) := by decide +kernel
theorem d7_59 : decode jdk_65_method_56_code 59 = .ok (.goto 6, 3) := by decide +kernel
theorem d7_62 : decode jdk_65_method_56_code 62 = .ok (.iload 7, 2) := by decide +kernel
theorem d7_64 : decode jdk_65_method_56_code 64 = .ok (.ireturn, 1) := by decide +kernel
theorem ef_b0_1 (m : MethodId) (x0 : Addr) (x1 : Int32) (x2 : Int32) (x3 : Int64) : entryFrame m #[(.ref x0), (.int x1), (.int x2), (.long x3)] 10 = mkF m 0 #[.val (.ref x0), .val (.int x1), .val (.int x2), .val (.long x3), .second, .unset, .unset, .unset, .unset, .unset] [] := by first | (simp [entryFrame, mkF, argsToLocals, Value.category]; done) | rfl
def fb0_1 (q4 : Int64) : Int32 := if (10 : Int64) < q4 then (-2 : Int32) else (if q4 < (10 : Int64) then (-1 : Int32) else (0 : Int32))
abbrev R_b0_1 : Room := { frames := 0, cells := 0, slots := 0, locals := 0 }
def Qb0_1 (Z : State) (a1 : Addr) (q4 : Int64) (k1 : ClassId) (h0 : Heap) (n0 : Nat) (v : Option Value) (h : Heap) (L : List Loc) : Prop := v = some (.int (fb0_1 q4)) ∧ Fr n0 L ∧ h = h0
set_option maxRecDepth 65536 in
set_option maxHeartbeats 40000000 in
theorem rmb0_1 (l : Launch) (Z : State) (a0 : Array Value) (hw : ∀ d ∈ tables_1, d.before a0 Z = true) (ws : List Jvm.Cond) (a1 : Addr) (q4 : Int64) (k1 : ClassId) (h0 : Heap) (n0 : Nat) (Z0 : n0 ≤ h0.size) (V_a1 : Arv Z h0 a1 k1 .long (8 : Int32) [(.long 10), (.long 0), (.long 0), (.long 0), (.long 0), (.long 0), (.long 0), (.long 0)] (.long 0)) :
    MetFree l (⟨"java/util/Arrays", "binarySearch0", "([JIIJ)I"⟩ : MethodName) (head1 (Jvm.Cond.code (⟨"java/util/Arrays", "binarySearch0", "([JIIJ)I"⟩ : MethodName) jdk_65_method_56_code 10 (some .int) :: ws) R_b0_1) (fun a U => a = #[(.ref a1), (.int 0), (.int 1), (.long q4)] ∧ Z.Warmed39 U.vm ∧ U.heap = h0) (fun _ _ _ _ _ => True) (fun _ U o U' => ∃ v L, o = .returned v ∧ Qb0_1 Z a1 q4 k1 h0 n0 v U'.heap L ∧ FrameEnd U o U' L R_b0_1.cells R_b0_1.slots) := by
  refine MetFree.of_bodySF (plainFor_of_name pn_22) hisR ?_
  intro p e s m args below meth c s₁ Bd hml0 hP hK
  obtain ⟨rfl, hZ, hh⟩ := hP
  have hx := Bd.exec
  have hby := Bd.bytes
  have hml : c.maxLocals = 10 := hml0
  have hown : s.vm.findClass "java/util/Arrays" = some m.cls := findClass_of_methodNamed Bd.named
  have hnm := (name_of_methodNamed Bd.named Bd.method).1
  have X0 : Stand p l e R_b0_1 s m #[(.ref a1), (.int 0), (.int 1), (.long q4)] below meth c s₁ [] 0 0 := Stand.of_body Bd
  have e0 : s₁.heap = h0 := by rw [← hh, Bd.state]; rfl
  have N0 := Fr.nil n0
  have pre0 : ∀ t, Steps p.tables e below (s₁.setTop (mkF m 0 #[uR a1, uI 0, uI 1, uL q4, uS, uU, uU, uU, uU, uU] [])) t → Steps p.tables e below (s₁.setTop (entryFrame m #[(.ref a1), (.int 0), (.int 1), (.long q4)] 10)) t := fun t k => castTop (ef_b0_1 m a1 (0 : Int32) (1 : Int32) q4) k
  obtain ⟨car1, Aar1, qar1, Sar1, Nar1, Har1, Gar1⟩ := id V_a1
  have hinar1 : ¬ ((0 : Int32) < 0 ∨ car1.slots.size ≤ ((0 : Int32)).toNatClampNeg) := inb_of Sar1 ⟨by decide, by decide⟩
  have hatar1 : car1.slots[((0 : Int32)).toNatClampNeg]? = some (.long 10) := Har1.at hinar1 rfl
  have pre2 : ∀ t, Steps p.tables e below (s₁.setTop (mkF m 34 #[uR a1, uI 0, uI 1, uL q4, uS, uI 0, uI 0, uI 0, uL 10, uS] [(.int (lcmpW (10 : Int64) q4))])) t → Steps p.tables e below (s₁.setTop (entryFrame m #[(.ref a1), (.int 0), (.int 1), (.long q4)] 10)) t := fun t k => pre0 t (by
    show Steps p.tables e below (s₁.setTop (mkF m 0 #[uR a1, uI 0, uI 1, uL q4, uS, uU, uU, uU, uU, uU] [])) _
    refine XS.iloadN X0.here hx rfl (hb hby d7_0) rfl ?_
    refine XS.istore X0.here hx rfl (hb hby d7_1) rfl (l' := #[uR a1, uI 0, uI 1, uL q4, uS, uI 0, uU, uU, uU, uU]) rfl ?_
    refine XS.iloadN X0.here hx rfl (hb hby d7_3) rfl ?_
    refine XS.iconst X0.here hx rfl (hb hby d7_4) ?_
    refine XS.isub X0.here hx rfl (hb hby d7_5) rfl ?_
    refine XS.istore X0.here hx rfl (hb hby d7_6) rfl (l' := #[uR a1, uI 0, uI 1, uL q4, uS, uI 0, uI 0, uU, uU, uU]) rfl ?_
    refine XS.iload X0.here hx rfl (hb hby d7_8) rfl ?_
    refine XS.iload X0.here hx rfl (hb hby d7_10) rfl ?_
    show Steps p.tables e below (s₁.setTop (mkF m 12 #[uR a1, uI 0, uI 1, uL q4, uS, uI 0, uI 0, uU, uU, uU] [(.int 0), (.int 0)])) _
    refine XS.icmpNo X0.here hx rfl (hb hby d7_12) rfl (flt (by decide : ¬ ((0 : Int32) < (0 : Int32)))).2.2.1 ?_
    refine XS.iload X0.here hx rfl (hb hby d7_15) rfl ?_
    refine XS.iload X0.here hx rfl (hb hby d7_17) rfl ?_
    refine XS.iadd X0.here hx rfl (hb hby d7_19) rfl ?_
    refine XS.iconst X0.here hx rfl (hb hby d7_20) ?_
    refine XS.iushr X0.here hx rfl (hb hby d7_21) rfl ?_
    refine XS.istore X0.here hx rfl (hb hby d7_22) rfl (l' := #[uR a1, uI 0, uI 1, uL q4, uS, uI 0, uI 0, uI 0, uU, uU]) rfl ?_
    refine XS.aloadN X0.here hx rfl (hb hby d7_24) rfl rfl ?_
    show Steps p.tables e below (s₁.setTop (mkF m 25 #[uR a1, uI 0, uI 1, uL q4, uS, uI 0, uI 0, uI 0, uU, uU] [(.ref a1)])) _
    refine XS.iload X0.here hx rfl (hb hby d7_25) rfl ?_
    refine X0.laload hx (j := (0 : Int32)) (v := (.long 10)) (by rw [e0]; exact Aar1.1) (State.isArrayOf_alike hZ.alike Aar1.2.1) Aar1.2.2 hinar1 hatar1 (g := (mkF m 27 #[uR a1, uI 0, uI 1, uL q4, uS, uI 0, uI 0, uI 0, uU, uU] [(.int 0), (.ref a1)])) rfl rfl (hb hby d7_27) _ ?_
    refine XS.lstore X0.here hx rfl (hb hby d7_28) rfl (l' := #[uR a1, uI 0, uI 1, uL q4, uS, uI 0, uI 0, uI 0, uL 10, uS]) rfl ?_
    refine XS.lload X0.here hx rfl (hb hby d7_30) rfl ?_
    refine XS.lloadN X0.here hx rfl (hb hby d7_32) rfl ?_
    refine XS.lcmp X0.here hx rfl (hb hby d7_33) rfl ?_
    exact k)
  by_cases hc3 : (10 : Int64) < q4
  ·  -- pc 34: (10 : Int64) < q4
    obtain ⟨fs, hr, hrun, hended, hW, hsame⟩ := X0.leave (v := some (.int (-2))) (fun h => by rw [Bd.returns] at h; cases h) Bd.notSynchronized
    refine ⟨_, _, pre2 _ ?_, hrun, hended, _, _, rfl, ?_, ⟨_, rfl⟩, hW, hsame.mono (by decide) (by decide)⟩
    · show Steps p.tables e below (s₁.setTop (mkF m 34 #[uR a1, uI 0, uI 1, uL q4, uS, uI 0, uI 0, uI 0, uL 10, uS] [(.int (lcmpW (10 : Int64) q4))])) _
      refine XS.ifNo X0.here hx rfl (hb hby d7_34) rfl ((if0 _ _).trans (tlt ((lw_lt _ _).mpr hc3)).2.1) ?_
      refine XS.iload X0.here hx rfl (hb hby d7_37) rfl ?_
      refine XS.iconst X0.here hx rfl (hb hby d7_39) ?_
      refine XS.iadd X0.here hx rfl (hb hby d7_40) rfl ?_
      refine XS.istore X0.here hx rfl (hb hby d7_41) rfl (l' := #[uR a1, uI 0, uI 1, uL q4, uS, uI 1, uI 0, uI 0, uL 10, uS]) rfl ?_
      refine XS.goto X0.here hx rfl (pc0 := 43) (pc' := 65) rfl (hb hby d7_43) (by decide) (by decide) ?_
      refine XS.goto X0.here hx rfl (pc0 := 65) (pc' := 8) rfl (hb hby d7_65) (by decide) (by decide) ?_
      refine XS.iload X0.here hx rfl (hb hby d7_8) rfl ?_
      refine XS.iload X0.here hx rfl (hb hby d7_10) rfl ?_
      show Steps p.tables e below (s₁.setTop (mkF m 12 #[uR a1, uI 0, uI 1, uL q4, uS, uI 1, uI 0, uI 0, uL 10, uS] [(.int 0), (.int 1)])) _
      refine XS.icmpYes X0.here hx rfl (pc0 := 12) (pc' := 68) rfl (hb hby d7_12) rfl (tlt (by decide : (0 : Int32) < (1 : Int32))).2.2.1 (by decide) (by decide) ?_
      show Steps p.tables e below (s₁.setTop (mkF m 68 #[uR a1, uI 0, uI 1, uL q4, uS, uI 1, uI 0, uI 0, uL 10, uS] [])) _
      refine XS.iload X0.here hx rfl (hb hby d7_68) rfl ?_
      refine XS.iconst X0.here hx rfl (hb hby d7_70) ?_
      refine XS.iadd X0.here hx rfl (hb hby d7_71) rfl ?_
      refine XS.ineg X0.here hx rfl (hb hby d7_72) rfl ?_
      exact retI X0 hx Bd.returns (hb hby d7_73) hr
    · show Qb0_1 Z a1 q4 k1 h0 n0 _ s₁.heap _
      rw [e0]
      exact ⟨(by unfold fb0_1; rw [if_pos hc3]), N0, rfl⟩
  ·  -- pc 34: not (10 : Int64) < q4
    have pre4 : ∀ t, Steps p.tables e below (s₁.setTop (mkF m 50 #[uR a1, uI 0, uI 1, uL q4, uS, uI 0, uI 0, uI 0, uL 10, uS] [(.int (lcmpW (10 : Int64) q4))])) t → Steps p.tables e below (s₁.setTop (entryFrame m #[(.ref a1), (.int 0), (.int 1), (.long q4)] 10)) t := fun t k => pre2 t (by
      show Steps p.tables e below (s₁.setTop (mkF m 34 #[uR a1, uI 0, uI 1, uL q4, uS, uI 0, uI 0, uI 0, uL 10, uS] [(.int (lcmpW (10 : Int64) q4))])) _
      refine XS.ifYes X0.here hx rfl (pc0 := 34) (pc' := 46) rfl (hb hby d7_34) rfl ((if0 _ _).trans (flt (mt (lw_lt _ _).mp hc3)).2.1) (by decide) (by decide) ?_
      refine XS.lload X0.here hx rfl (hb hby d7_46) rfl ?_
      refine XS.lloadN X0.here hx rfl (hb hby d7_48) rfl ?_
      refine XS.lcmp X0.here hx rfl (hb hby d7_49) rfl ?_
      exact k)
    by_cases hc5 : q4 < (10 : Int64)
    ·  -- pc 50: q4 < (10 : Int64)
      obtain ⟨fs, hr, hrun, hended, hW, hsame⟩ := X0.leave (v := some (.int (-1))) (fun h => by rw [Bd.returns] at h; cases h) Bd.notSynchronized
      refine ⟨_, _, pre4 _ ?_, hrun, hended, _, _, rfl, ?_, ⟨_, rfl⟩, hW, hsame.mono (by decide) (by decide)⟩
      · show Steps p.tables e below (s₁.setTop (mkF m 50 #[uR a1, uI 0, uI 1, uL q4, uS, uI 0, uI 0, uI 0, uL 10, uS] [(.int (lcmpW (10 : Int64) q4))])) _
        refine XS.ifNo X0.here hx rfl (hb hby d7_50) rfl ((if0 _ _).trans (tlt ((lw_gt _ _).mpr hc5)).2.2.2) ?_
        refine XS.iload X0.here hx rfl (hb hby d7_53) rfl ?_
        refine XS.iconst X0.here hx rfl (hb hby d7_55) ?_
        refine XS.isub X0.here hx rfl (hb hby d7_56) rfl ?_
        refine XS.istore X0.here hx rfl (hb hby d7_57) rfl (l' := #[uR a1, uI 0, uI 1, uL q4, uS, uI 0, uI (-1 : Int32), uI 0, uL 10, uS]) rfl ?_
        refine XS.goto X0.here hx rfl (pc0 := 59) (pc' := 65) rfl (hb hby d7_59) (by decide) (by decide) ?_
        show Steps p.tables e below (s₁.setTop (mkF m 65 #[uR a1, uI 0, uI 1, uL q4, uS, uI 0, uI (-1 : Int32), uI 0, uL 10, uS] [])) _
        refine XS.goto X0.here hx rfl (pc0 := 65) (pc' := 8) rfl (hb hby d7_65) (by decide) (by decide) ?_
        refine XS.iload X0.here hx rfl (hb hby d7_8) rfl ?_
        refine XS.iload X0.here hx rfl (hb hby d7_10) rfl ?_
        show Steps p.tables e below (s₁.setTop (mkF m 12 #[uR a1, uI 0, uI 1, uL q4, uS, uI 0, uI (-1 : Int32), uI 0, uL 10, uS] [(.int (-1)), (.int 0)])) _
        refine XS.icmpYes X0.here hx rfl (pc0 := 12) (pc' := 68) rfl (hb hby d7_12) rfl (tlt (by decide : (-1 : Int32) < (0 : Int32))).2.2.1 (by decide) (by decide) ?_
        refine XS.iload X0.here hx rfl (hb hby d7_68) rfl ?_
        refine XS.iconst X0.here hx rfl (hb hby d7_70) ?_
        refine XS.iadd X0.here hx rfl (hb hby d7_71) rfl ?_
        refine XS.ineg X0.here hx rfl (hb hby d7_72) rfl ?_
        exact retI X0 hx Bd.returns (hb hby d7_73) hr
      · show Qb0_1 Z a1 q4 k1 h0 n0 _ s₁.heap _
        rw [e0]
        exact ⟨(by unfold fb0_1; rw [if_neg hc3, if_pos hc5]), N0, rfl⟩
    ·  -- pc 50: not q4 < (10 : Int64)
      obtain ⟨fs, hr, hrun, hended, hW, hsame⟩ := X0.leave (v := some (.int 0)) (fun h => by rw [Bd.returns] at h; cases h) Bd.notSynchronized
      refine ⟨_, _, pre4 _ ?_, hrun, hended, _, _, rfl, ?_, ⟨_, rfl⟩, hW, hsame.mono (by decide) (by decide)⟩
      · show Steps p.tables e below (s₁.setTop (mkF m 50 #[uR a1, uI 0, uI 1, uL q4, uS, uI 0, uI 0, uI 0, uL 10, uS] [(.int (lcmpW (10 : Int64) q4))])) _
        refine XS.ifYes X0.here hx rfl (pc0 := 50) (pc' := 62) rfl (hb hby d7_50) rfl ((if0 _ _).trans (flt (mt (lw_gt _ _).mp hc5)).2.2.2) (by decide) (by decide) ?_
        refine XS.iload X0.here hx rfl (hb hby d7_62) rfl ?_
        exact retI X0 hx Bd.returns (hb hby d7_64) hr
      · show Qb0_1 Z a1 q4 k1 h0 n0 _ s₁.heap _
        rw [e0]
        exact ⟨(by unfold fb0_1; rw [if_neg hc3, if_neg hc5]), N0, rfl⟩
theorem ef_bs_1 (m : MethodId) (x0 : Addr) (x1 : Int32) (x2 : Int32) (x3 : Int64) : entryFrame m #[(.ref x0), (.int x1), (.int x2), (.long x3)] 5 = mkF m 0 #[.val (.ref x0), .val (.int x1), .val (.int x2), .val (.long x3), .second] [] := by first | (simp [entryFrame, mkF, argsToLocals, Value.category]; done) | rfl
abbrev R_bs_1 : Room := { frames := 1, cells := 0, slots := 0, locals := 21 }
def Qbs_1 (Z : State) (a1 : Addr) (q4 : Int64) (k1 : ClassId) (h0 : Heap) (n0 : Nat) (v : Option Value) (h : Heap) (L : List Loc) : Prop := v = some (.int (fb0_1 q4)) ∧ Fr n0 L ∧ h = h0
set_option maxRecDepth 65536 in
set_option maxHeartbeats 40000000 in
theorem rmbs_1 (l : Launch) (Z : State) (a0 : Array Value) (hw : ∀ d ∈ tables_1, d.before a0 Z = true) (ws : List Jvm.Cond) (a1 : Addr) (q4 : Int64) (k1 : ClassId) (h0 : Heap) (n0 : Nat) (Z0 : n0 ≤ h0.size) (V_a1 : Arv Z h0 a1 k1 .long (8 : Int32) [(.long 10), (.long 0), (.long 0), (.long 0), (.long 0), (.long 0), (.long 0), (.long 0)] (.long 0)) :
    MetFree l (⟨"java/util/Arrays", "binarySearch", "([JIIJ)I"⟩ : MethodName) (head1 (Jvm.Cond.code (⟨"java/util/Arrays", "binarySearch", "([JIIJ)I"⟩ : MethodName) jdk_65_method_55_code 5 (some .int) :: ws) R_bs_1) (fun a U => a = #[(.ref a1), (.int 0), (.int 1), (.long q4)] ∧ Z.Warmed39 U.vm ∧ U.heap = h0) (fun _ _ _ _ _ => True) (fun _ U o U' => ∃ v L, o = .returned v ∧ Qbs_1 Z a1 q4 k1 h0 n0 v U'.heap L ∧ FrameEnd U o U' L R_bs_1.cells R_bs_1.slots) := by
  refine MetFree.of_bodySF (plainFor_of_name pn_22) hisR ?_
  intro p e s m args below meth c s₁ Bd hml0 hP hK
  obtain ⟨rfl, hZ, hh⟩ := hP
  have hx := Bd.exec
  have hby := Bd.bytes
  have hml : c.maxLocals = 5 := hml0
  have hown : s.vm.findClass "java/util/Arrays" = some m.cls := findClass_of_methodNamed Bd.named
  have hnm := (name_of_methodNamed Bd.named Bd.method).1
  have X0 : Stand p l e R_bs_1 s m #[(.ref a1), (.int 0), (.int 1), (.long q4)] below meth c s₁ [] 0 0 := Stand.of_body Bd
  have e0 : s₁.heap = h0 := by rw [← hh, Bd.state]; rfl
  have N0 := Fr.nil n0
  have pre0 : ∀ t, Steps p.tables e below (s₁.setTop (mkF m 0 #[uR a1, uI 0, uI 1, uL q4, uS] [])) t → Steps p.tables e below (s₁.setTop (entryFrame m #[(.ref a1), (.int 0), (.int 1), (.long q4)] 5)) t := fun t k => castTop (ef_bs_1 m a1 (0 : Int32) (1 : Int32) q4) k
  obtain ⟨car1, Aar1, qar1, Sar1, Nar1, Har1, Gar1⟩ := id V_a1
  -- pc 4: Arrays.rangeCheck by rmrc
  obtain ⟨_, _, ⟨T2, L2, ck2, cn2⟩, -, X2, ⟨Lc2, hQ2, l2, y2, z2⟩, st2⟩ := Jvm.LawKit.callS X0 hx (y := (⟨"java/util/Arrays", "rangeCheck", "(III)V"⟩ : MethodName)) hown (mvT hZ (own_w hw (i := 33) rfl)) (mvT hZ (own_w hw (i := 34) rfl)) (mvT hZ (own_w hw (i := 31) rfl)) (mvT hZ (own_w hw (i := 35) rfl)) (by decide) (backOf (W := 0) (rmrc l Z a0 hw [] (8 : Int32) (0 : Int32) (1 : Int32) h0 n0 Z0 (by decide) (by decide) (by decide)) hZ (own_w hw (i := 35) rfl) (own_w hw (i := 31) rfl) (by decide) (by decide)) (g := (mkF m 4 #[uR a1, uI 0, uI 1, uL q4, uS] [(.int 1), (.int 0), (.int 8)])) rfl (by rw [hml]; rfl) (argsL := [(.int 8), (.int 0), (.int 1)]) (rest := []) (lenOf pd_177 rfl) rfl (by show 2 * 0 + _ ≤ _; exact Nat.le_of_eq rfl) (hb hby d5_4) (fun _ _ => ⟨rfl, e0, (by decide : 0 + 0 ≤ _), (by decide : 0 + 0 ≤ _)⟩)
  dsimp only [Pt.U, Pt.locs, Pt.cells, Pt.slots] at X2 l2 y2 z2 st2 hQ2
  subst y2 z2
  obtain ⟨rfl, N2q, e2⟩ := hQ2
  have N3 : Fr n0 L2 := by rw [l2]; exact Fr.app N0 N2q
  -- pc 11: Arrays.binarySearch0 by rmb0_1
  obtain ⟨_, _, ⟨T4, L4, ck4, cn4⟩, -, X4, ⟨Lc4, hQ4, l4, y4, z4⟩, st4⟩ := Jvm.LawKit.callS X2 hx (y := (⟨"java/util/Arrays", "binarySearch0", "([JIIJ)I"⟩ : MethodName)) hown (mvT hZ (own_w hw (i := 36) rfl)) (mvT hZ (own_w hw (i := 37) rfl)) (mvT hZ (own_w hw (i := 31) rfl)) (mvT hZ (own_w hw (i := 38) rfl)) (by decide) (backOf (W := 0) (rmb0_1 l Z a0 hw [] a1 q4 k1 h0 n0 Z0 V_a1) hZ (own_w hw (i := 38) rfl) (own_w hw (i := 31) rfl) (by decide) (by decide)) (g := (mkF m 11 #[uR a1, uI 0, uI 1, uL q4, uS] [(.long q4), (.int 1), (.int 0), (.ref a1)])) rfl (by rw [hml]; rfl) (argsL := [(.ref a1), (.int 0), (.int 1), (.long q4)]) (rest := []) (lenOf pd_183 rfl) rfl (by show 2 * 0 + _ ≤ _; exact Nat.le_of_eq rfl) (hb hby d5_11) (fun _ _ => ⟨rfl, e2, (by decide : 0 + 0 ≤ _), (by decide : 0 + 0 ≤ _)⟩)
  dsimp only [Pt.U, Pt.locs, Pt.cells, Pt.slots] at X4 l4 y4 z4 st4 hQ4
  subst y4 z4
  obtain ⟨rfl, N4q, e4⟩ := hQ4
  have N5 : Fr n0 L4 := by rw [l4]; exact Fr.app N3 N4q
  obtain ⟨fs, hr, hrun, hended, hW, hsame⟩ := X4.leave (v := some (.int (fb0_1 q4))) (fun h => by rw [Bd.returns] at h; cases h) Bd.notSynchronized
  refine ⟨_, _, pre0 _ ?_, hrun, hended, _, _, rfl, ?_, ⟨_, rfl⟩, hW, hsame.mono (by decide) (by decide)⟩
  · show Steps p.tables e below (s₁.setTop (mkF m 0 #[uR a1, uI 0, uI 1, uL q4, uS] [])) _
    refine XS.aloadN X0.here hx rfl (hb hby d5_0) rfl rfl ?_
    refine X0.arraylength hx (by rw [e0]; exact Aar1.1) (State.isArrayOf_alike hZ.alike Aar1.2.1) (g := (mkF m 1 #[uR a1, uI 0, uI 1, uL q4, uS] [(.ref a1)])) rfl rfl (hb hby d5_1) _ ?_
    rw [len_of Sar1 Nar1]
    refine XS.iloadN X0.here hx rfl (hb hby d5_2) rfl ?_
    refine XS.iloadN X0.here hx rfl (hb hby d5_3) rfl ?_
    refine st2 _ ?_
    refine XS.aloadN X2.here hx rfl (hb hby d5_7) rfl rfl ?_
    refine XS.iloadN X2.here hx rfl (hb hby d5_8) rfl ?_
    refine XS.iloadN X2.here hx rfl (hb hby d5_9) rfl ?_
    refine XS.lloadN X2.here hx rfl (hb hby d5_10) rfl ?_
    refine st4 _ ?_
    exact retI X4 hx Bd.returns (hb hby d5_14) hr
  · show Qbs_1 Z a1 q4 k1 h0 n0 _ T4.heap _
    rw [e4]
    exact ⟨rfl, N5, rfl⟩
theorem d4_17 : decode prog_126_method_14_code 17 = .ok (.iload 4, 2) := by decide +kernel
theorem d4_19 : decode prog_126_method_14_code 19 = .ok (.goto 8, 3) := by decide +kernel
theorem ef_la_1 (m : MethodId) (x0 : Addr) (x1 : Addr) (x2 : Int64) : entryFrame m #[(.ref x0), (.ref x1), (.long x2)] 5 = mkF m 0 #[.val (.ref x0), .val (.ref x1), .val (.long x2), .second, .unset] [] := by first | (simp [entryFrame, mkF, argsToLocals, Value.category]; done) | rfl
def fla_1 (q3 : Int64) : Int32 := if (fb0_1 q3) < (0 : Int32) then ((-(fb0_1 q3)) - (2 : Int32)) else (fb0_1 q3)
abbrev R_la_1 : Room := { frames := 2, cells := 0, slots := 0, locals := 37 }
def Qla_1 (Z : State) (a1 : Addr) (a2 : Addr) (q3 : Int64) (k1 : ClassId) (r : Int32) (h0 : Heap) (n0 : Nat) (v : Option Value) (h : Heap) (L : List Loc) : Prop := v = some (.int r) ∧ Fr n0 L ∧ h = h0
set_option maxRecDepth 65536 in
set_option maxHeartbeats 40000000 in
theorem rmla_1 (l : Launch) (Z : State) (a0 : Array Value) (hw : ∀ d ∈ tables_1, d.before a0 Z = true) (ws : List Jvm.Cond) (a1 : Addr) (a2 : Addr) (q3 : Int64) (k1 : ClassId) (r : Int32) (h0 : Heap) (n0 : Nat) (Z0 : n0 ≤ h0.size) (F_count_a1 : Fld Z h0 a1 KC "count" "I" (.int 1)) (V_a2 : Arv Z h0 a2 k1 .long (8 : Int32) [(.long 10), (.long 0), (.long 0), (.long 0), (.long 0), (.long 0), (.long 0), (.long 0)] (.long 0)) (hrr : (fla_1 q3) = r) :
    MetFree l (⟨KC, "lastAtOrBefore", "([JJ)I"⟩ : MethodName) (head1 (Jvm.Cond.code (⟨KC, "lastAtOrBefore", "([JJ)I"⟩ : MethodName) prog_126_method_14_code 5 (some .int) :: ws) R_la_1) (fun a U => a = #[(.ref a1), (.ref a2), (.long q3)] ∧ Z.Warmed39 U.vm ∧ U.heap = h0) (fun _ _ _ _ _ => True) (fun _ U o U' => ∃ v L, o = .returned v ∧ Qla_1 Z a1 a2 q3 k1 r h0 n0 v U'.heap L ∧ FrameEnd U o U' L R_la_1.cells R_la_1.slots) := by
  refine MetFree.of_bodySF (plainFor_of_name pn_55) hisR ?_
  intro p e s m args below meth c s₁ Bd hml0 hP hK
  obtain ⟨rfl, hZ, hh⟩ := hP
  have hx := Bd.exec
  have hby := Bd.bytes
  have hml : c.maxLocals = 5 := hml0
  have hown : s.vm.findClass KC = some m.cls := findClass_of_methodNamed Bd.named
  have hnm := (name_of_methodNamed Bd.named Bd.method).1
  have X0 : Stand p l e R_la_1 s m #[(.ref a1), (.ref a2), (.long q3)] below meth c s₁ [] 0 0 := Stand.of_body Bd
  have e0 : s₁.heap = h0 := by rw [← hh, Bd.state]; rfl
  have N0 := Fr.nil n0
  have pre0 : ∀ t, Steps p.tables e below (s₁.setTop (mkF m 0 #[uR a1, uR a2, uL q3, uS, uU] [])) t → Steps p.tables e below (s₁.setTop (entryFrame m #[(.ref a1), (.ref a2), (.long q3)] 5)) t := fun t k => castTop (ef_la_1 m a1 a2 q3) k
  obtain ⟨T1, X1, e1, st1⟩ := getF X0 hx hZ hown (host := "") (Or.inl (own_w hw (i := 27) rfl)) Via.refl e0 F_count_a1 (g := (mkF m 3 #[uR a1, uR a2, uL q3, uS, uU] [(.ref a1), (.int 0), (.ref a2)])) rfl rfl (hb hby d4_3)
  -- pc 7: Arrays.binarySearch by rmbs_1
  obtain ⟨_, _, ⟨T2, L2, ck2, cn2⟩, -, X2, ⟨Lc2, hQ2, l2, y2, z2⟩, st2⟩ := Jvm.LawKit.callS X1 hx (y := (⟨"java/util/Arrays", "binarySearch", "([JIIJ)I"⟩ : MethodName)) hown (mvT hZ (own_w hw (i := 29) rfl)) (mvT hZ (own_w hw (i := 30) rfl)) (mvT hZ (own_w hw (i := 31) rfl)) (mvT hZ (own_w hw (i := 32) rfl)) (by decide) (backOf (W := 0) (rmbs_1 l Z a0 hw [] a2 q3 k1 h0 n0 Z0 V_a2) hZ (own_w hw (i := 32) rfl) (own_w hw (i := 31) rfl) (by decide) (by decide)) (g := (mkF m 7 #[uR a1, uR a2, uL q3, uS, uU] [(.long q3), (.int 1), (.int 0), (.ref a2)])) rfl (by rw [hml]; rfl) (argsL := [(.ref a2), (.int 0), (.int 1), (.long q3)]) (rest := []) (lenOf pd_183 rfl) rfl (by show 2 * 0 + _ ≤ _; exact Nat.le_of_eq rfl) (hb hby d4_7) (fun _ _ => ⟨rfl, e1, (by decide : 0 + 0 ≤ _), (by decide : 0 + 0 ≤ _)⟩)
  dsimp only [Pt.U, Pt.locs, Pt.cells, Pt.slots] at X2 l2 y2 z2 st2 hQ2
  subst y2 z2
  obtain ⟨rfl, N2q, e2⟩ := hQ2
  have N3 : Fr n0 L2 := by rw [l2]; exact Fr.app N0 N2q
  have pre4 : ∀ t, Steps p.tables e below (T2.setTop (mkF m 14 #[uR a1, uR a2, uL q3, uS, uI (fb0_1 q3)] [(.int (fb0_1 q3))])) t → Steps p.tables e below (s₁.setTop (entryFrame m #[(.ref a1), (.ref a2), (.long q3)] 5)) t := fun t k => pre0 t (by
    show Steps p.tables e below (s₁.setTop (mkF m 0 #[uR a1, uR a2, uL q3, uS, uU] [])) _
    refine XS.aloadN X0.here hx rfl (hb hby d4_0) rfl rfl ?_
    refine XS.iconst X0.here hx rfl (hb hby d4_1) ?_
    refine XS.aloadN X0.here hx rfl (hb hby d4_2) rfl rfl ?_
    refine st1 _ ?_
    refine XS.lloadN X1.here hx rfl (hb hby d4_6) rfl ?_
    refine st2 _ ?_
    refine XS.istore X2.here hx rfl (hb hby d4_10) rfl (l' := #[uR a1, uR a2, uL q3, uS, uI (fb0_1 q3)]) rfl ?_
    refine XS.iload X2.here hx rfl (hb hby d4_12) rfl ?_
    exact k)
  by_cases hc5 : (fb0_1 q3) < (0 : Int32)
  ·  -- pc 14: (fb0_1 q3) < (0 : Int32)
    obtain ⟨fs, hr, hrun, hended, hW, hsame⟩ := X2.leave (v := some (.int ((-(fb0_1 q3)) - (2 : Int32)))) (fun h => by rw [Bd.returns] at h; cases h) Bd.notSynchronized
    refine ⟨_, _, pre4 _ ?_, hrun, hended, _, _, rfl, ?_, ⟨_, rfl⟩, hW, hsame.mono (by decide) (by decide)⟩
    · show Steps p.tables e below (T2.setTop (mkF m 14 #[uR a1, uR a2, uL q3, uS, uI (fb0_1 q3)] [(.int (fb0_1 q3))])) _
      refine XS.ifYes X2.here hx rfl (pc0 := 14) (pc' := 22) rfl (hb hby d4_14) rfl ((if0 _ _).trans (tlt hc5).1) (by decide) (by decide) ?_
      refine XS.iload X2.here hx rfl (hb hby d4_22) rfl ?_
      refine XS.ineg X2.here hx rfl (hb hby d4_24) rfl ?_
      refine XS.iconst X2.here hx rfl (hb hby d4_25) ?_
      refine XS.isub X2.here hx rfl (hb hby d4_26) rfl ?_
      exact retI X2 hx Bd.returns (hb hby d4_27) hr
    · show Qla_1 Z a1 a2 q3 k1 r h0 n0 _ T2.heap _
      rw [e2]
      exact ⟨(by rw [← hrr]; unfold fla_1; rw [if_pos hc5]), N3, rfl⟩
  ·  -- pc 14: not (fb0_1 q3) < (0 : Int32)
    obtain ⟨fs, hr, hrun, hended, hW, hsame⟩ := X2.leave (v := some (.int (fb0_1 q3))) (fun h => by rw [Bd.returns] at h; cases h) Bd.notSynchronized
    refine ⟨_, _, pre4 _ ?_, hrun, hended, _, _, rfl, ?_, ⟨_, rfl⟩, hW, hsame.mono (by decide) (by decide)⟩
    · show Steps p.tables e below (T2.setTop (mkF m 14 #[uR a1, uR a2, uL q3, uS, uI (fb0_1 q3)] [(.int (fb0_1 q3))])) _
      refine XS.ifNo X2.here hx rfl (hb hby d4_14) rfl ((if0 _ _).trans (flt hc5).1) ?_
      refine XS.iload X2.here hx rfl (hb hby d4_17) rfl ?_
      refine XS.goto X2.here hx rfl (pc0 := 19) (pc' := 27) rfl (hb hby d4_19) (by decide) (by decide) ?_
      exact retI X2 hx Bd.returns (hb hby d4_27) hr
    · show Qla_1 Z a1 a2 q3 k1 r h0 n0 _ T2.heap _
      rw [e2]
      exact ⟨(by rw [← hrr]; unfold fla_1; rw [if_neg hc5]), N3, rfl⟩
theorem ef_b0_2 (m : MethodId) (x0 : Addr) (x1 : Int32) (x2 : Int32) (x3 : Int64) : entryFrame m #[(.ref x0), (.int x1), (.int x2), (.long x3)] 10 = mkF m 0 #[.val (.ref x0), .val (.int x1), .val (.int x2), .val (.long x3), .second, .unset, .unset, .unset, .unset, .unset] [] := by first | (simp [entryFrame, mkF, argsToLocals, Value.category]; done) | rfl
def fb0_2 (q4 : Int64) : Int32 := if (10 : Int64) < q4 then (if (20 : Int64) < q4 then (-3 : Int32) else (if q4 < (20 : Int64) then (-2 : Int32) else (1 : Int32))) else (if q4 < (10 : Int64) then (-1 : Int32) else (0 : Int32))
abbrev R_b0_2 : Room := { frames := 0, cells := 0, slots := 0, locals := 0 }
def Qb0_2 (Z : State) (a1 : Addr) (q4 : Int64) (k1 : ClassId) (h0 : Heap) (n0 : Nat) (v : Option Value) (h : Heap) (L : List Loc) : Prop := v = some (.int (fb0_2 q4)) ∧ Fr n0 L ∧ h = h0
set_option maxRecDepth 65536 in
set_option maxHeartbeats 40000000 in
theorem rmb0_2 (l : Launch) (Z : State) (a0 : Array Value) (hw : ∀ d ∈ tables_1, d.before a0 Z = true) (ws : List Jvm.Cond) (a1 : Addr) (q4 : Int64) (k1 : ClassId) (h0 : Heap) (n0 : Nat) (Z0 : n0 ≤ h0.size) (V_a1 : Arv Z h0 a1 k1 .long (8 : Int32) [(.long 10), (.long 20), (.long 0), (.long 0), (.long 0), (.long 0), (.long 0), (.long 0)] (.long 0)) :
    MetFree l (⟨"java/util/Arrays", "binarySearch0", "([JIIJ)I"⟩ : MethodName) (head1 (Jvm.Cond.code (⟨"java/util/Arrays", "binarySearch0", "([JIIJ)I"⟩ : MethodName) jdk_65_method_56_code 10 (some .int) :: ws) R_b0_2) (fun a U => a = #[(.ref a1), (.int 0), (.int 2), (.long q4)] ∧ Z.Warmed39 U.vm ∧ U.heap = h0) (fun _ _ _ _ _ => True) (fun _ U o U' => ∃ v L, o = .returned v ∧ Qb0_2 Z a1 q4 k1 h0 n0 v U'.heap L ∧ FrameEnd U o U' L R_b0_2.cells R_b0_2.slots) := by
  refine MetFree.of_bodySF (plainFor_of_name pn_22) hisR ?_
  intro p e s m args below meth c s₁ Bd hml0 hP hK
  obtain ⟨rfl, hZ, hh⟩ := hP
  have hx := Bd.exec
  have hby := Bd.bytes
  have hml : c.maxLocals = 10 := hml0
  have hown : s.vm.findClass "java/util/Arrays" = some m.cls := findClass_of_methodNamed Bd.named
  have hnm := (name_of_methodNamed Bd.named Bd.method).1
  have X0 : Stand p l e R_b0_2 s m #[(.ref a1), (.int 0), (.int 2), (.long q4)] below meth c s₁ [] 0 0 := Stand.of_body Bd
  have e0 : s₁.heap = h0 := by rw [← hh, Bd.state]; rfl
  have N0 := Fr.nil n0
  have pre0 : ∀ t, Steps p.tables e below (s₁.setTop (mkF m 0 #[uR a1, uI 0, uI 2, uL q4, uS, uU, uU, uU, uU, uU] [])) t → Steps p.tables e below (s₁.setTop (entryFrame m #[(.ref a1), (.int 0), (.int 2), (.long q4)] 10)) t := fun t k => castTop (ef_b0_2 m a1 (0 : Int32) (2 : Int32) q4) k
  obtain ⟨car1, Aar1, qar1, Sar1, Nar1, Har1, Gar1⟩ := id V_a1
  have hinar1 : ¬ ((0 : Int32) < 0 ∨ car1.slots.size ≤ ((0 : Int32)).toNatClampNeg) := inb_of Sar1 ⟨by decide, by decide⟩
  have hatar1 : car1.slots[((0 : Int32)).toNatClampNeg]? = some (.long 10) := Har1.at hinar1 rfl
  have pre2 : ∀ t, Steps p.tables e below (s₁.setTop (mkF m 34 #[uR a1, uI 0, uI 2, uL q4, uS, uI 0, uI 1, uI 0, uL 10, uS] [(.int (lcmpW (10 : Int64) q4))])) t → Steps p.tables e below (s₁.setTop (entryFrame m #[(.ref a1), (.int 0), (.int 2), (.long q4)] 10)) t := fun t k => pre0 t (by
    show Steps p.tables e below (s₁.setTop (mkF m 0 #[uR a1, uI 0, uI 2, uL q4, uS, uU, uU, uU, uU, uU] [])) _
    refine XS.iloadN X0.here hx rfl (hb hby d7_0) rfl ?_
    refine XS.istore X0.here hx rfl (hb hby d7_1) rfl (l' := #[uR a1, uI 0, uI 2, uL q4, uS, uI 0, uU, uU, uU, uU]) rfl ?_
    refine XS.iloadN X0.here hx rfl (hb hby d7_3) rfl ?_
    refine XS.iconst X0.here hx rfl (hb hby d7_4) ?_
    refine XS.isub X0.here hx rfl (hb hby d7_5) rfl ?_
    refine XS.istore X0.here hx rfl (hb hby d7_6) rfl (l' := #[uR a1, uI 0, uI 2, uL q4, uS, uI 0, uI 1, uU, uU, uU]) rfl ?_
    refine XS.iload X0.here hx rfl (hb hby d7_8) rfl ?_
    refine XS.iload X0.here hx rfl (hb hby d7_10) rfl ?_
    show Steps p.tables e below (s₁.setTop (mkF m 12 #[uR a1, uI 0, uI 2, uL q4, uS, uI 0, uI 1, uU, uU, uU] [(.int 1), (.int 0)])) _
    refine XS.icmpNo X0.here hx rfl (hb hby d7_12) rfl (flt (by decide : ¬ ((1 : Int32) < (0 : Int32)))).2.2.1 ?_
    refine XS.iload X0.here hx rfl (hb hby d7_15) rfl ?_
    refine XS.iload X0.here hx rfl (hb hby d7_17) rfl ?_
    refine XS.iadd X0.here hx rfl (hb hby d7_19) rfl ?_
    refine XS.iconst X0.here hx rfl (hb hby d7_20) ?_
    refine XS.iushr X0.here hx rfl (hb hby d7_21) rfl ?_
    refine XS.istore X0.here hx rfl (hb hby d7_22) rfl (l' := #[uR a1, uI 0, uI 2, uL q4, uS, uI 0, uI 1, uI 0, uU, uU]) rfl ?_
    refine XS.aloadN X0.here hx rfl (hb hby d7_24) rfl rfl ?_
    show Steps p.tables e below (s₁.setTop (mkF m 25 #[uR a1, uI 0, uI 2, uL q4, uS, uI 0, uI 1, uI 0, uU, uU] [(.ref a1)])) _
    refine XS.iload X0.here hx rfl (hb hby d7_25) rfl ?_
    refine X0.laload hx (j := (0 : Int32)) (v := (.long 10)) (by rw [e0]; exact Aar1.1) (State.isArrayOf_alike hZ.alike Aar1.2.1) Aar1.2.2 hinar1 hatar1 (g := (mkF m 27 #[uR a1, uI 0, uI 2, uL q4, uS, uI 0, uI 1, uI 0, uU, uU] [(.int 0), (.ref a1)])) rfl rfl (hb hby d7_27) _ ?_
    refine XS.lstore X0.here hx rfl (hb hby d7_28) rfl (l' := #[uR a1, uI 0, uI 2, uL q4, uS, uI 0, uI 1, uI 0, uL 10, uS]) rfl ?_
    refine XS.lload X0.here hx rfl (hb hby d7_30) rfl ?_
    refine XS.lloadN X0.here hx rfl (hb hby d7_32) rfl ?_
    refine XS.lcmp X0.here hx rfl (hb hby d7_33) rfl ?_
    exact k)
  by_cases hc3 : (10 : Int64) < q4
  ·  -- pc 34: (10 : Int64) < q4
    obtain ⟨car4, Aar4, qar4, Sar4, Nar4, Har4, Gar4⟩ := id V_a1
    have hinar4 : ¬ ((1 : Int32) < 0 ∨ car4.slots.size ≤ ((1 : Int32)).toNatClampNeg) := inb_of Sar4 ⟨by decide, by decide⟩
    have hatar4 : car4.slots[((1 : Int32)).toNatClampNeg]? = some (.long 20) := Har4.at hinar4 rfl
    have pre5 : ∀ t, Steps p.tables e below (s₁.setTop (mkF m 34 #[uR a1, uI 0, uI 2, uL q4, uS, uI 1, uI 1, uI 1, uL 20, uS] [(.int (lcmpW (20 : Int64) q4))])) t → Steps p.tables e below (s₁.setTop (entryFrame m #[(.ref a1), (.int 0), (.int 2), (.long q4)] 10)) t := fun t k => pre2 t (by
      show Steps p.tables e below (s₁.setTop (mkF m 34 #[uR a1, uI 0, uI 2, uL q4, uS, uI 0, uI 1, uI 0, uL 10, uS] [(.int (lcmpW (10 : Int64) q4))])) _
      refine XS.ifNo X0.here hx rfl (hb hby d7_34) rfl ((if0 _ _).trans (tlt ((lw_lt _ _).mpr hc3)).2.1) ?_
      refine XS.iload X0.here hx rfl (hb hby d7_37) rfl ?_
      refine XS.iconst X0.here hx rfl (hb hby d7_39) ?_
      refine XS.iadd X0.here hx rfl (hb hby d7_40) rfl ?_
      refine XS.istore X0.here hx rfl (hb hby d7_41) rfl (l' := #[uR a1, uI 0, uI 2, uL q4, uS, uI 1, uI 1, uI 0, uL 10, uS]) rfl ?_
      refine XS.goto X0.here hx rfl (pc0 := 43) (pc' := 65) rfl (hb hby d7_43) (by decide) (by decide) ?_
      refine XS.goto X0.here hx rfl (pc0 := 65) (pc' := 8) rfl (hb hby d7_65) (by decide) (by decide) ?_
      refine XS.iload X0.here hx rfl (hb hby d7_8) rfl ?_
      refine XS.iload X0.here hx rfl (hb hby d7_10) rfl ?_
      show Steps p.tables e below (s₁.setTop (mkF m 12 #[uR a1, uI 0, uI 2, uL q4, uS, uI 1, uI 1, uI 0, uL 10, uS] [(.int 1), (.int 1)])) _
      refine XS.icmpNo X0.here hx rfl (hb hby d7_12) rfl (flt (by decide : ¬ ((1 : Int32) < (1 : Int32)))).2.2.1 ?_
      show Steps p.tables e below (s₁.setTop (mkF m 15 #[uR a1, uI 0, uI 2, uL q4, uS, uI 1, uI 1, uI 0, uL 10, uS] [])) _
      refine XS.iload X0.here hx rfl (hb hby d7_15) rfl ?_
      refine XS.iload X0.here hx rfl (hb hby d7_17) rfl ?_
      refine XS.iadd X0.here hx rfl (hb hby d7_19) rfl ?_
      refine XS.iconst X0.here hx rfl (hb hby d7_20) ?_
      refine XS.iushr X0.here hx rfl (hb hby d7_21) rfl ?_
      refine XS.istore X0.here hx rfl (hb hby d7_22) rfl (l' := #[uR a1, uI 0, uI 2, uL q4, uS, uI 1, uI 1, uI 1, uL 10, uS]) rfl ?_
      refine XS.aloadN X0.here hx rfl (hb hby d7_24) rfl rfl ?_
      refine XS.iload X0.here hx rfl (hb hby d7_25) rfl ?_
      refine X0.laload hx (j := (1 : Int32)) (v := (.long 20)) (by rw [e0]; exact Aar4.1) (State.isArrayOf_alike hZ.alike Aar4.2.1) Aar4.2.2 hinar4 hatar4 (g := (mkF m 27 #[uR a1, uI 0, uI 2, uL q4, uS, uI 1, uI 1, uI 1, uL 10, uS] [(.int 1), (.ref a1)])) rfl rfl (hb hby d7_27) _ ?_
      refine XS.lstore X0.here hx rfl (hb hby d7_28) rfl (l' := #[uR a1, uI 0, uI 2, uL q4, uS, uI 1, uI 1, uI 1, uL 20, uS]) rfl ?_
      refine XS.lload X0.here hx rfl (hb hby d7_30) rfl ?_
      refine XS.lloadN X0.here hx rfl (hb hby d7_32) rfl ?_
      refine XS.lcmp X0.here hx rfl (hb hby d7_33) rfl ?_
      exact k)
    by_cases hc6 : (20 : Int64) < q4
    ·  -- pc 34: (20 : Int64) < q4
      obtain ⟨fs, hr, hrun, hended, hW, hsame⟩ := X0.leave (v := some (.int (-3))) (fun h => by rw [Bd.returns] at h; cases h) Bd.notSynchronized
      refine ⟨_, _, pre5 _ ?_, hrun, hended, _, _, rfl, ?_, ⟨_, rfl⟩, hW, hsame.mono (by decide) (by decide)⟩
      · show Steps p.tables e below (s₁.setTop (mkF m 34 #[uR a1, uI 0, uI 2, uL q4, uS, uI 1, uI 1, uI 1, uL 20, uS] [(.int (lcmpW (20 : Int64) q4))])) _
        refine XS.ifNo X0.here hx rfl (hb hby d7_34) rfl ((if0 _ _).trans (tlt ((lw_lt _ _).mpr hc6)).2.1) ?_
        refine XS.iload X0.here hx rfl (hb hby d7_37) rfl ?_
        refine XS.iconst X0.here hx rfl (hb hby d7_39) ?_
        show Steps p.tables e below (s₁.setTop (mkF m 40 #[uR a1, uI 0, uI 2, uL q4, uS, uI 1, uI 1, uI 1, uL 20, uS] [(.int 1), (.int 1)])) _
        refine XS.iadd X0.here hx rfl (hb hby d7_40) rfl ?_
        refine XS.istore X0.here hx rfl (hb hby d7_41) rfl (l' := #[uR a1, uI 0, uI 2, uL q4, uS, uI 2, uI 1, uI 1, uL 20, uS]) rfl ?_
        refine XS.goto X0.here hx rfl (pc0 := 43) (pc' := 65) rfl (hb hby d7_43) (by decide) (by decide) ?_
        refine XS.goto X0.here hx rfl (pc0 := 65) (pc' := 8) rfl (hb hby d7_65) (by decide) (by decide) ?_
        refine XS.iload X0.here hx rfl (hb hby d7_8) rfl ?_
        refine XS.iload X0.here hx rfl (hb hby d7_10) rfl ?_
        show Steps p.tables e below (s₁.setTop (mkF m 12 #[uR a1, uI 0, uI 2, uL q4, uS, uI 2, uI 1, uI 1, uL 20, uS] [(.int 1), (.int 2)])) _
        refine XS.icmpYes X0.here hx rfl (pc0 := 12) (pc' := 68) rfl (hb hby d7_12) rfl (tlt (by decide : (1 : Int32) < (2 : Int32))).2.2.1 (by decide) (by decide) ?_
        refine XS.iload X0.here hx rfl (hb hby d7_68) rfl ?_
        refine XS.iconst X0.here hx rfl (hb hby d7_70) ?_
        refine XS.iadd X0.here hx rfl (hb hby d7_71) rfl ?_
        refine XS.ineg X0.here hx rfl (hb hby d7_72) rfl ?_
        exact retI X0 hx Bd.returns (hb hby d7_73) hr
      · show Qb0_2 Z a1 q4 k1 h0 n0 _ s₁.heap _
        rw [e0]
        exact ⟨(by unfold fb0_2; rw [if_pos hc3, if_pos hc6]), N0, rfl⟩
    ·  -- pc 34: not (20 : Int64) < q4
      have pre7 : ∀ t, Steps p.tables e below (s₁.setTop (mkF m 50 #[uR a1, uI 0, uI 2, uL q4, uS, uI 1, uI 1, uI 1, uL 20, uS] [(.int (lcmpW (20 : Int64) q4))])) t → Steps p.tables e below (s₁.setTop (entryFrame m #[(.ref a1), (.int 0), (.int 2), (.long q4)] 10)) t := fun t k => pre5 t (by
        show Steps p.tables e below (s₁.setTop (mkF m 34 #[uR a1, uI 0, uI 2, uL q4, uS, uI 1, uI 1, uI 1, uL 20, uS] [(.int (lcmpW (20 : Int64) q4))])) _
        refine XS.ifYes X0.here hx rfl (pc0 := 34) (pc' := 46) rfl (hb hby d7_34) rfl ((if0 _ _).trans (flt (mt (lw_lt _ _).mp hc6)).2.1) (by decide) (by decide) ?_
        refine XS.lload X0.here hx rfl (hb hby d7_46) rfl ?_
        refine XS.lloadN X0.here hx rfl (hb hby d7_48) rfl ?_
        show Steps p.tables e below (s₁.setTop (mkF m 49 #[uR a1, uI 0, uI 2, uL q4, uS, uI 1, uI 1, uI 1, uL 20, uS] [(.long q4), (.long 20)])) _
        refine XS.lcmp X0.here hx rfl (hb hby d7_49) rfl ?_
        exact k)
      by_cases hc8 : q4 < (20 : Int64)
      ·  -- pc 50: q4 < (20 : Int64)
        obtain ⟨fs, hr, hrun, hended, hW, hsame⟩ := X0.leave (v := some (.int (-2))) (fun h => by rw [Bd.returns] at h; cases h) Bd.notSynchronized
        refine ⟨_, _, pre7 _ ?_, hrun, hended, _, _, rfl, ?_, ⟨_, rfl⟩, hW, hsame.mono (by decide) (by decide)⟩
        · show Steps p.tables e below (s₁.setTop (mkF m 50 #[uR a1, uI 0, uI 2, uL q4, uS, uI 1, uI 1, uI 1, uL 20, uS] [(.int (lcmpW (20 : Int64) q4))])) _
          refine XS.ifNo X0.here hx rfl (hb hby d7_50) rfl ((if0 _ _).trans (tlt ((lw_gt _ _).mpr hc8)).2.2.2) ?_
          refine XS.iload X0.here hx rfl (hb hby d7_53) rfl ?_
          refine XS.iconst X0.here hx rfl (hb hby d7_55) ?_
          refine XS.isub X0.here hx rfl (hb hby d7_56) rfl ?_
          refine XS.istore X0.here hx rfl (hb hby d7_57) rfl (l' := #[uR a1, uI 0, uI 2, uL q4, uS, uI 1, uI 0, uI 1, uL 20, uS]) rfl ?_
          refine XS.goto X0.here hx rfl (pc0 := 59) (pc' := 65) rfl (hb hby d7_59) (by decide) (by decide) ?_
          refine XS.goto X0.here hx rfl (pc0 := 65) (pc' := 8) rfl (hb hby d7_65) (by decide) (by decide) ?_
          refine XS.iload X0.here hx rfl (hb hby d7_8) rfl ?_
          refine XS.iload X0.here hx rfl (hb hby d7_10) rfl ?_
          show Steps p.tables e below (s₁.setTop (mkF m 12 #[uR a1, uI 0, uI 2, uL q4, uS, uI 1, uI 0, uI 1, uL 20, uS] [(.int 0), (.int 1)])) _
          refine XS.icmpYes X0.here hx rfl (pc0 := 12) (pc' := 68) rfl (hb hby d7_12) rfl (tlt (by decide : (0 : Int32) < (1 : Int32))).2.2.1 (by decide) (by decide) ?_
          refine XS.iload X0.here hx rfl (hb hby d7_68) rfl ?_
          refine XS.iconst X0.here hx rfl (hb hby d7_70) ?_
          refine XS.iadd X0.here hx rfl (hb hby d7_71) rfl ?_
          refine XS.ineg X0.here hx rfl (hb hby d7_72) rfl ?_
          exact retI X0 hx Bd.returns (hb hby d7_73) hr
        · show Qb0_2 Z a1 q4 k1 h0 n0 _ s₁.heap _
          rw [e0]
          exact ⟨(by unfold fb0_2; rw [if_pos hc3, if_neg hc6, if_pos hc8]), N0, rfl⟩
      ·  -- pc 50: not q4 < (20 : Int64)
        obtain ⟨fs, hr, hrun, hended, hW, hsame⟩ := X0.leave (v := some (.int 1)) (fun h => by rw [Bd.returns] at h; cases h) Bd.notSynchronized
        refine ⟨_, _, pre7 _ ?_, hrun, hended, _, _, rfl, ?_, ⟨_, rfl⟩, hW, hsame.mono (by decide) (by decide)⟩
        · show Steps p.tables e below (s₁.setTop (mkF m 50 #[uR a1, uI 0, uI 2, uL q4, uS, uI 1, uI 1, uI 1, uL 20, uS] [(.int (lcmpW (20 : Int64) q4))])) _
          refine XS.ifYes X0.here hx rfl (pc0 := 50) (pc' := 62) rfl (hb hby d7_50) rfl ((if0 _ _).trans (flt (mt (lw_gt _ _).mp hc8)).2.2.2) (by decide) (by decide) ?_
          refine XS.iload X0.here hx rfl (hb hby d7_62) rfl ?_
          exact retI X0 hx Bd.returns (hb hby d7_64) hr
        · show Qb0_2 Z a1 q4 k1 h0 n0 _ s₁.heap _
          rw [e0]
          exact ⟨(by unfold fb0_2; rw [if_pos hc3, if_neg hc6, if_neg hc8]), N0, rfl⟩
  ·  -- pc 34: not (10 : Int64) < q4
    have pre9 : ∀ t, Steps p.tables e below (s₁.setTop (mkF m 50 #[uR a1, uI 0, uI 2, uL q4, uS, uI 0, uI 1, uI 0, uL 10, uS] [(.int (lcmpW (10 : Int64) q4))])) t → Steps p.tables e below (s₁.setTop (entryFrame m #[(.ref a1), (.int 0), (.int 2), (.long q4)] 10)) t := fun t k => pre2 t (by
      show Steps p.tables e below (s₁.setTop (mkF m 34 #[uR a1, uI 0, uI 2, uL q4, uS, uI 0, uI 1, uI 0, uL 10, uS] [(.int (lcmpW (10 : Int64) q4))])) _
      refine XS.ifYes X0.here hx rfl (pc0 := 34) (pc' := 46) rfl (hb hby d7_34) rfl ((if0 _ _).trans (flt (mt (lw_lt _ _).mp hc3)).2.1) (by decide) (by decide) ?_
      refine XS.lload X0.here hx rfl (hb hby d7_46) rfl ?_
      refine XS.lloadN X0.here hx rfl (hb hby d7_48) rfl ?_
      refine XS.lcmp X0.here hx rfl (hb hby d7_49) rfl ?_
      exact k)
    by_cases hc10 : q4 < (10 : Int64)
    ·  -- pc 50: q4 < (10 : Int64)
      obtain ⟨fs, hr, hrun, hended, hW, hsame⟩ := X0.leave (v := some (.int (-1))) (fun h => by rw [Bd.returns] at h; cases h) Bd.notSynchronized
      refine ⟨_, _, pre9 _ ?_, hrun, hended, _, _, rfl, ?_, ⟨_, rfl⟩, hW, hsame.mono (by decide) (by decide)⟩
      · show Steps p.tables e below (s₁.setTop (mkF m 50 #[uR a1, uI 0, uI 2, uL q4, uS, uI 0, uI 1, uI 0, uL 10, uS] [(.int (lcmpW (10 : Int64) q4))])) _
        refine XS.ifNo X0.here hx rfl (hb hby d7_50) rfl ((if0 _ _).trans (tlt ((lw_gt _ _).mpr hc10)).2.2.2) ?_
        refine XS.iload X0.here hx rfl (hb hby d7_53) rfl ?_
        refine XS.iconst X0.here hx rfl (hb hby d7_55) ?_
        refine XS.isub X0.here hx rfl (hb hby d7_56) rfl ?_
        refine XS.istore X0.here hx rfl (hb hby d7_57) rfl (l' := #[uR a1, uI 0, uI 2, uL q4, uS, uI 0, uI (-1 : Int32), uI 0, uL 10, uS]) rfl ?_
        refine XS.goto X0.here hx rfl (pc0 := 59) (pc' := 65) rfl (hb hby d7_59) (by decide) (by decide) ?_
        show Steps p.tables e below (s₁.setTop (mkF m 65 #[uR a1, uI 0, uI 2, uL q4, uS, uI 0, uI (-1 : Int32), uI 0, uL 10, uS] [])) _
        refine XS.goto X0.here hx rfl (pc0 := 65) (pc' := 8) rfl (hb hby d7_65) (by decide) (by decide) ?_
        refine XS.iload X0.here hx rfl (hb hby d7_8) rfl ?_
        refine XS.iload X0.here hx rfl (hb hby d7_10) rfl ?_
        show Steps p.tables e below (s₁.setTop (mkF m 12 #[uR a1, uI 0, uI 2, uL q4, uS, uI 0, uI (-1 : Int32), uI 0, uL 10, uS] [(.int (-1)), (.int 0)])) _
        refine XS.icmpYes X0.here hx rfl (pc0 := 12) (pc' := 68) rfl (hb hby d7_12) rfl (tlt (by decide : (-1 : Int32) < (0 : Int32))).2.2.1 (by decide) (by decide) ?_
        refine XS.iload X0.here hx rfl (hb hby d7_68) rfl ?_
        refine XS.iconst X0.here hx rfl (hb hby d7_70) ?_
        refine XS.iadd X0.here hx rfl (hb hby d7_71) rfl ?_
        refine XS.ineg X0.here hx rfl (hb hby d7_72) rfl ?_
        exact retI X0 hx Bd.returns (hb hby d7_73) hr
      · show Qb0_2 Z a1 q4 k1 h0 n0 _ s₁.heap _
        rw [e0]
        exact ⟨(by unfold fb0_2; rw [if_neg hc3, if_pos hc10]), N0, rfl⟩
    ·  -- pc 50: not q4 < (10 : Int64)
      obtain ⟨fs, hr, hrun, hended, hW, hsame⟩ := X0.leave (v := some (.int 0)) (fun h => by rw [Bd.returns] at h; cases h) Bd.notSynchronized
      refine ⟨_, _, pre9 _ ?_, hrun, hended, _, _, rfl, ?_, ⟨_, rfl⟩, hW, hsame.mono (by decide) (by decide)⟩
      · show Steps p.tables e below (s₁.setTop (mkF m 50 #[uR a1, uI 0, uI 2, uL q4, uS, uI 0, uI 1, uI 0, uL 10, uS] [(.int (lcmpW (10 : Int64) q4))])) _
        refine XS.ifYes X0.here hx rfl (pc0 := 50) (pc' := 62) rfl (hb hby d7_50) rfl ((if0 _ _).trans (flt (mt (lw_gt _ _).mp hc10)).2.2.2) (by decide) (by decide) ?_
        refine XS.iload X0.here hx rfl (hb hby d7_62) rfl ?_
        exact retI X0 hx Bd.returns (hb hby d7_64) hr
      · show Qb0_2 Z a1 q4 k1 h0 n0 _ s₁.heap _
        rw [e0]
        exact ⟨(by unfold fb0_2; rw [if_neg hc3, if_neg hc10]), N0, rfl⟩
theorem ef_bs_2 (m : MethodId) (x0 : Addr) (x1 : Int32) (x2 : Int32) (x3 : Int64) : entryFrame m #[(.ref x0), (.int x1), (.int x2), (.long x3)] 5 = mkF m 0 #[.val (.ref x0), .val (.int x1), .val (.int x2), .val (.long x3), .second] [] := by first | (simp [entryFrame, mkF, argsToLocals, Value.category]; done) | rfl
abbrev R_bs_2 : Room := { frames := 1, cells := 0, slots := 0, locals := 21 }
def Qbs_2 (Z : State) (a1 : Addr) (q4 : Int64) (k1 : ClassId) (h0 : Heap) (n0 : Nat) (v : Option Value) (h : Heap) (L : List Loc) : Prop := v = some (.int (fb0_2 q4)) ∧ Fr n0 L ∧ h = h0
set_option maxRecDepth 65536 in
set_option maxHeartbeats 40000000 in
theorem rmbs_2 (l : Launch) (Z : State) (a0 : Array Value) (hw : ∀ d ∈ tables_1, d.before a0 Z = true) (ws : List Jvm.Cond) (a1 : Addr) (q4 : Int64) (k1 : ClassId) (h0 : Heap) (n0 : Nat) (Z0 : n0 ≤ h0.size) (V_a1 : Arv Z h0 a1 k1 .long (8 : Int32) [(.long 10), (.long 20), (.long 0), (.long 0), (.long 0), (.long 0), (.long 0), (.long 0)] (.long 0)) :
    MetFree l (⟨"java/util/Arrays", "binarySearch", "([JIIJ)I"⟩ : MethodName) (head1 (Jvm.Cond.code (⟨"java/util/Arrays", "binarySearch", "([JIIJ)I"⟩ : MethodName) jdk_65_method_55_code 5 (some .int) :: ws) R_bs_2) (fun a U => a = #[(.ref a1), (.int 0), (.int 2), (.long q4)] ∧ Z.Warmed39 U.vm ∧ U.heap = h0) (fun _ _ _ _ _ => True) (fun _ U o U' => ∃ v L, o = .returned v ∧ Qbs_2 Z a1 q4 k1 h0 n0 v U'.heap L ∧ FrameEnd U o U' L R_bs_2.cells R_bs_2.slots) := by
  refine MetFree.of_bodySF (plainFor_of_name pn_22) hisR ?_
  intro p e s m args below meth c s₁ Bd hml0 hP hK
  obtain ⟨rfl, hZ, hh⟩ := hP
  have hx := Bd.exec
  have hby := Bd.bytes
  have hml : c.maxLocals = 5 := hml0
  have hown : s.vm.findClass "java/util/Arrays" = some m.cls := findClass_of_methodNamed Bd.named
  have hnm := (name_of_methodNamed Bd.named Bd.method).1
  have X0 : Stand p l e R_bs_2 s m #[(.ref a1), (.int 0), (.int 2), (.long q4)] below meth c s₁ [] 0 0 := Stand.of_body Bd
  have e0 : s₁.heap = h0 := by rw [← hh, Bd.state]; rfl
  have N0 := Fr.nil n0
  have pre0 : ∀ t, Steps p.tables e below (s₁.setTop (mkF m 0 #[uR a1, uI 0, uI 2, uL q4, uS] [])) t → Steps p.tables e below (s₁.setTop (entryFrame m #[(.ref a1), (.int 0), (.int 2), (.long q4)] 5)) t := fun t k => castTop (ef_bs_2 m a1 (0 : Int32) (2 : Int32) q4) k
  obtain ⟨car1, Aar1, qar1, Sar1, Nar1, Har1, Gar1⟩ := id V_a1
  -- pc 4: Arrays.rangeCheck by rmrc
  obtain ⟨_, _, ⟨T2, L2, ck2, cn2⟩, -, X2, ⟨Lc2, hQ2, l2, y2, z2⟩, st2⟩ := Jvm.LawKit.callS X0 hx (y := (⟨"java/util/Arrays", "rangeCheck", "(III)V"⟩ : MethodName)) hown (mvT hZ (own_w hw (i := 33) rfl)) (mvT hZ (own_w hw (i := 34) rfl)) (mvT hZ (own_w hw (i := 31) rfl)) (mvT hZ (own_w hw (i := 35) rfl)) (by decide) (backOf (W := 0) (rmrc l Z a0 hw [] (8 : Int32) (0 : Int32) (2 : Int32) h0 n0 Z0 (by decide) (by decide) (by decide)) hZ (own_w hw (i := 35) rfl) (own_w hw (i := 31) rfl) (by decide) (by decide)) (g := (mkF m 4 #[uR a1, uI 0, uI 2, uL q4, uS] [(.int 2), (.int 0), (.int 8)])) rfl (by rw [hml]; rfl) (argsL := [(.int 8), (.int 0), (.int 2)]) (rest := []) (lenOf pd_177 rfl) rfl (by show 2 * 0 + _ ≤ _; exact Nat.le_of_eq rfl) (hb hby d5_4) (fun _ _ => ⟨rfl, e0, (by decide : 0 + 0 ≤ _), (by decide : 0 + 0 ≤ _)⟩)
  dsimp only [Pt.U, Pt.locs, Pt.cells, Pt.slots] at X2 l2 y2 z2 st2 hQ2
  subst y2 z2
  obtain ⟨rfl, N2q, e2⟩ := hQ2
  have N3 : Fr n0 L2 := by rw [l2]; exact Fr.app N0 N2q
  -- pc 11: Arrays.binarySearch0 by rmb0_2
  obtain ⟨_, _, ⟨T4, L4, ck4, cn4⟩, -, X4, ⟨Lc4, hQ4, l4, y4, z4⟩, st4⟩ := Jvm.LawKit.callS X2 hx (y := (⟨"java/util/Arrays", "binarySearch0", "([JIIJ)I"⟩ : MethodName)) hown (mvT hZ (own_w hw (i := 36) rfl)) (mvT hZ (own_w hw (i := 37) rfl)) (mvT hZ (own_w hw (i := 31) rfl)) (mvT hZ (own_w hw (i := 38) rfl)) (by decide) (backOf (W := 0) (rmb0_2 l Z a0 hw [] a1 q4 k1 h0 n0 Z0 V_a1) hZ (own_w hw (i := 38) rfl) (own_w hw (i := 31) rfl) (by decide) (by decide)) (g := (mkF m 11 #[uR a1, uI 0, uI 2, uL q4, uS] [(.long q4), (.int 2), (.int 0), (.ref a1)])) rfl (by rw [hml]; rfl) (argsL := [(.ref a1), (.int 0), (.int 2), (.long q4)]) (rest := []) (lenOf pd_183 rfl) rfl (by show 2 * 0 + _ ≤ _; exact Nat.le_of_eq rfl) (hb hby d5_11) (fun _ _ => ⟨rfl, e2, (by decide : 0 + 0 ≤ _), (by decide : 0 + 0 ≤ _)⟩)
  dsimp only [Pt.U, Pt.locs, Pt.cells, Pt.slots] at X4 l4 y4 z4 st4 hQ4
  subst y4 z4
  obtain ⟨rfl, N4q, e4⟩ := hQ4
  have N5 : Fr n0 L4 := by rw [l4]; exact Fr.app N3 N4q
  obtain ⟨fs, hr, hrun, hended, hW, hsame⟩ := X4.leave (v := some (.int (fb0_2 q4))) (fun h => by rw [Bd.returns] at h; cases h) Bd.notSynchronized
  refine ⟨_, _, pre0 _ ?_, hrun, hended, _, _, rfl, ?_, ⟨_, rfl⟩, hW, hsame.mono (by decide) (by decide)⟩
  · show Steps p.tables e below (s₁.setTop (mkF m 0 #[uR a1, uI 0, uI 2, uL q4, uS] [])) _
    refine XS.aloadN X0.here hx rfl (hb hby d5_0) rfl rfl ?_
    refine X0.arraylength hx (by rw [e0]; exact Aar1.1) (State.isArrayOf_alike hZ.alike Aar1.2.1) (g := (mkF m 1 #[uR a1, uI 0, uI 2, uL q4, uS] [(.ref a1)])) rfl rfl (hb hby d5_1) _ ?_
    rw [len_of Sar1 Nar1]
    refine XS.iloadN X0.here hx rfl (hb hby d5_2) rfl ?_
    refine XS.iloadN X0.here hx rfl (hb hby d5_3) rfl ?_
    refine st2 _ ?_
    refine XS.aloadN X2.here hx rfl (hb hby d5_7) rfl rfl ?_
    refine XS.iloadN X2.here hx rfl (hb hby d5_8) rfl ?_
    refine XS.iloadN X2.here hx rfl (hb hby d5_9) rfl ?_
    refine XS.lloadN X2.here hx rfl (hb hby d5_10) rfl ?_
    refine st4 _ ?_
    exact retI X4 hx Bd.returns (hb hby d5_14) hr
  · show Qbs_2 Z a1 q4 k1 h0 n0 _ T4.heap _
    rw [e4]
    exact ⟨rfl, N5, rfl⟩
theorem ef_la_2 (m : MethodId) (x0 : Addr) (x1 : Addr) (x2 : Int64) : entryFrame m #[(.ref x0), (.ref x1), (.long x2)] 5 = mkF m 0 #[.val (.ref x0), .val (.ref x1), .val (.long x2), .second, .unset] [] := by first | (simp [entryFrame, mkF, argsToLocals, Value.category]; done) | rfl
def fla_2 (q3 : Int64) : Int32 := if (fb0_2 q3) < (0 : Int32) then ((-(fb0_2 q3)) - (2 : Int32)) else (fb0_2 q3)
abbrev R_la_2 : Room := { frames := 2, cells := 0, slots := 0, locals := 37 }
def Qla_2 (Z : State) (a1 : Addr) (a2 : Addr) (q3 : Int64) (k1 : ClassId) (r : Int32) (h0 : Heap) (n0 : Nat) (v : Option Value) (h : Heap) (L : List Loc) : Prop := v = some (.int r) ∧ Fr n0 L ∧ h = h0
set_option maxRecDepth 65536 in
set_option maxHeartbeats 40000000 in
theorem rmla_2 (l : Launch) (Z : State) (a0 : Array Value) (hw : ∀ d ∈ tables_1, d.before a0 Z = true) (ws : List Jvm.Cond) (a1 : Addr) (a2 : Addr) (q3 : Int64) (k1 : ClassId) (r : Int32) (h0 : Heap) (n0 : Nat) (Z0 : n0 ≤ h0.size) (F_count_a1 : Fld Z h0 a1 KC "count" "I" (.int 2)) (V_a2 : Arv Z h0 a2 k1 .long (8 : Int32) [(.long 10), (.long 20), (.long 0), (.long 0), (.long 0), (.long 0), (.long 0), (.long 0)] (.long 0)) (hrr : (fla_2 q3) = r) :
    MetFree l (⟨KC, "lastAtOrBefore", "([JJ)I"⟩ : MethodName) (head1 (Jvm.Cond.code (⟨KC, "lastAtOrBefore", "([JJ)I"⟩ : MethodName) prog_126_method_14_code 5 (some .int) :: ws) R_la_2) (fun a U => a = #[(.ref a1), (.ref a2), (.long q3)] ∧ Z.Warmed39 U.vm ∧ U.heap = h0) (fun _ _ _ _ _ => True) (fun _ U o U' => ∃ v L, o = .returned v ∧ Qla_2 Z a1 a2 q3 k1 r h0 n0 v U'.heap L ∧ FrameEnd U o U' L R_la_2.cells R_la_2.slots) := by
  refine MetFree.of_bodySF (plainFor_of_name pn_55) hisR ?_
  intro p e s m args below meth c s₁ Bd hml0 hP hK
  obtain ⟨rfl, hZ, hh⟩ := hP
  have hx := Bd.exec
  have hby := Bd.bytes
  have hml : c.maxLocals = 5 := hml0
  have hown : s.vm.findClass KC = some m.cls := findClass_of_methodNamed Bd.named
  have hnm := (name_of_methodNamed Bd.named Bd.method).1
  have X0 : Stand p l e R_la_2 s m #[(.ref a1), (.ref a2), (.long q3)] below meth c s₁ [] 0 0 := Stand.of_body Bd
  have e0 : s₁.heap = h0 := by rw [← hh, Bd.state]; rfl
  have N0 := Fr.nil n0
  have pre0 : ∀ t, Steps p.tables e below (s₁.setTop (mkF m 0 #[uR a1, uR a2, uL q3, uS, uU] [])) t → Steps p.tables e below (s₁.setTop (entryFrame m #[(.ref a1), (.ref a2), (.long q3)] 5)) t := fun t k => castTop (ef_la_2 m a1 a2 q3) k
  obtain ⟨T1, X1, e1, st1⟩ := getF X0 hx hZ hown (host := "") (Or.inl (own_w hw (i := 27) rfl)) Via.refl e0 F_count_a1 (g := (mkF m 3 #[uR a1, uR a2, uL q3, uS, uU] [(.ref a1), (.int 0), (.ref a2)])) rfl rfl (hb hby d4_3)
  -- pc 7: Arrays.binarySearch by rmbs_2
  obtain ⟨_, _, ⟨T2, L2, ck2, cn2⟩, -, X2, ⟨Lc2, hQ2, l2, y2, z2⟩, st2⟩ := Jvm.LawKit.callS X1 hx (y := (⟨"java/util/Arrays", "binarySearch", "([JIIJ)I"⟩ : MethodName)) hown (mvT hZ (own_w hw (i := 29) rfl)) (mvT hZ (own_w hw (i := 30) rfl)) (mvT hZ (own_w hw (i := 31) rfl)) (mvT hZ (own_w hw (i := 32) rfl)) (by decide) (backOf (W := 0) (rmbs_2 l Z a0 hw [] a2 q3 k1 h0 n0 Z0 V_a2) hZ (own_w hw (i := 32) rfl) (own_w hw (i := 31) rfl) (by decide) (by decide)) (g := (mkF m 7 #[uR a1, uR a2, uL q3, uS, uU] [(.long q3), (.int 2), (.int 0), (.ref a2)])) rfl (by rw [hml]; rfl) (argsL := [(.ref a2), (.int 0), (.int 2), (.long q3)]) (rest := []) (lenOf pd_183 rfl) rfl (by show 2 * 0 + _ ≤ _; exact Nat.le_of_eq rfl) (hb hby d4_7) (fun _ _ => ⟨rfl, e1, (by decide : 0 + 0 ≤ _), (by decide : 0 + 0 ≤ _)⟩)
  dsimp only [Pt.U, Pt.locs, Pt.cells, Pt.slots] at X2 l2 y2 z2 st2 hQ2
  subst y2 z2
  obtain ⟨rfl, N2q, e2⟩ := hQ2
  have N3 : Fr n0 L2 := by rw [l2]; exact Fr.app N0 N2q
  have pre4 : ∀ t, Steps p.tables e below (T2.setTop (mkF m 14 #[uR a1, uR a2, uL q3, uS, uI (fb0_2 q3)] [(.int (fb0_2 q3))])) t → Steps p.tables e below (s₁.setTop (entryFrame m #[(.ref a1), (.ref a2), (.long q3)] 5)) t := fun t k => pre0 t (by
    show Steps p.tables e below (s₁.setTop (mkF m 0 #[uR a1, uR a2, uL q3, uS, uU] [])) _
    refine XS.aloadN X0.here hx rfl (hb hby d4_0) rfl rfl ?_
    refine XS.iconst X0.here hx rfl (hb hby d4_1) ?_
    refine XS.aloadN X0.here hx rfl (hb hby d4_2) rfl rfl ?_
    refine st1 _ ?_
    refine XS.lloadN X1.here hx rfl (hb hby d4_6) rfl ?_
    refine st2 _ ?_
    refine XS.istore X2.here hx rfl (hb hby d4_10) rfl (l' := #[uR a1, uR a2, uL q3, uS, uI (fb0_2 q3)]) rfl ?_
    refine XS.iload X2.here hx rfl (hb hby d4_12) rfl ?_
    exact k)
  by_cases hc5 : (fb0_2 q3) < (0 : Int32)
  ·  -- pc 14: (fb0_2 q3) < (0 : Int32)
    obtain ⟨fs, hr, hrun, hended, hW, hsame⟩ := X2.leave (v := some (.int ((-(fb0_2 q3)) - (2 : Int32)))) (fun h => by rw [Bd.returns] at h; cases h) Bd.notSynchronized
    refine ⟨_, _, pre4 _ ?_, hrun, hended, _, _, rfl, ?_, ⟨_, rfl⟩, hW, hsame.mono (by decide) (by decide)⟩
    · show Steps p.tables e below (T2.setTop (mkF m 14 #[uR a1, uR a2, uL q3, uS, uI (fb0_2 q3)] [(.int (fb0_2 q3))])) _
      refine XS.ifYes X2.here hx rfl (pc0 := 14) (pc' := 22) rfl (hb hby d4_14) rfl ((if0 _ _).trans (tlt hc5).1) (by decide) (by decide) ?_
      refine XS.iload X2.here hx rfl (hb hby d4_22) rfl ?_
      refine XS.ineg X2.here hx rfl (hb hby d4_24) rfl ?_
      refine XS.iconst X2.here hx rfl (hb hby d4_25) ?_
      refine XS.isub X2.here hx rfl (hb hby d4_26) rfl ?_
      exact retI X2 hx Bd.returns (hb hby d4_27) hr
    · show Qla_2 Z a1 a2 q3 k1 r h0 n0 _ T2.heap _
      rw [e2]
      exact ⟨(by rw [← hrr]; unfold fla_2; rw [if_pos hc5]), N3, rfl⟩
  ·  -- pc 14: not (fb0_2 q3) < (0 : Int32)
    obtain ⟨fs, hr, hrun, hended, hW, hsame⟩ := X2.leave (v := some (.int (fb0_2 q3))) (fun h => by rw [Bd.returns] at h; cases h) Bd.notSynchronized
    refine ⟨_, _, pre4 _ ?_, hrun, hended, _, _, rfl, ?_, ⟨_, rfl⟩, hW, hsame.mono (by decide) (by decide)⟩
    · show Steps p.tables e below (T2.setTop (mkF m 14 #[uR a1, uR a2, uL q3, uS, uI (fb0_2 q3)] [(.int (fb0_2 q3))])) _
      refine XS.ifNo X2.here hx rfl (hb hby d4_14) rfl ((if0 _ _).trans (flt hc5).1) ?_
      refine XS.iload X2.here hx rfl (hb hby d4_17) rfl ?_
      refine XS.goto X2.here hx rfl (pc0 := 19) (pc' := 27) rfl (hb hby d4_19) (by decide) (by decide) ?_
      exact retI X2 hx Bd.returns (hb hby d4_27) hr
    · show Qla_2 Z a1 a2 q3 k1 r h0 n0 _ T2.heap _
      rw [e2]
      exact ⟨(by rw [← hrr]; unfold fla_2; rw [if_neg hc5]), N3, rfl⟩
theorem ef_b0_3 (m : MethodId) (x0 : Addr) (x1 : Int32) (x2 : Int32) (x3 : Int64) : entryFrame m #[(.ref x0), (.int x1), (.int x2), (.long x3)] 10 = mkF m 0 #[.val (.ref x0), .val (.int x1), .val (.int x2), .val (.long x3), .second, .unset, .unset, .unset, .unset, .unset] [] := by first | (simp [entryFrame, mkF, argsToLocals, Value.category]; done) | rfl
def fb0_3 (q4 : Int64) : Int32 := if (20 : Int64) < q4 then (if (30 : Int64) < q4 then (-4 : Int32) else (if q4 < (30 : Int64) then (-3 : Int32) else (2 : Int32))) else (if q4 < (20 : Int64) then (if (10 : Int64) < q4 then (-2 : Int32) else (if q4 < (10 : Int64) then (-1 : Int32) else (0 : Int32))) else (1 : Int32))
abbrev R_b0_3 : Room := { frames := 0, cells := 0, slots := 0, locals := 0 }
def Qb0_3 (Z : State) (a1 : Addr) (q4 : Int64) (k1 : ClassId) (h0 : Heap) (n0 : Nat) (v : Option Value) (h : Heap) (L : List Loc) : Prop := v = some (.int (fb0_3 q4)) ∧ Fr n0 L ∧ h = h0
set_option maxRecDepth 65536 in
set_option maxHeartbeats 40000000 in
theorem rmb0_3 (l : Launch) (Z : State) (a0 : Array Value) (hw : ∀ d ∈ tables_1, d.before a0 Z = true) (ws : List Jvm.Cond) (a1 : Addr) (q4 : Int64) (k1 : ClassId) (h0 : Heap) (n0 : Nat) (Z0 : n0 ≤ h0.size) (V_a1 : Arv Z h0 a1 k1 .long (8 : Int32) [(.long 10), (.long 20), (.long 30), (.long 0), (.long 0), (.long 0), (.long 0), (.long 0)] (.long 0)) :
    MetFree l (⟨"java/util/Arrays", "binarySearch0", "([JIIJ)I"⟩ : MethodName) (head1 (Jvm.Cond.code (⟨"java/util/Arrays", "binarySearch0", "([JIIJ)I"⟩ : MethodName) jdk_65_method_56_code 10 (some .int) :: ws) R_b0_3) (fun a U => a = #[(.ref a1), (.int 0), (.int 3), (.long q4)] ∧ Z.Warmed39 U.vm ∧ U.heap = h0) (fun _ _ _ _ _ => True) (fun _ U o U' => ∃ v L, o = .returned v ∧ Qb0_3 Z a1 q4 k1 h0 n0 v U'.heap L ∧ FrameEnd U o U' L R_b0_3.cells R_b0_3.slots) := by
  refine MetFree.of_bodySF (plainFor_of_name pn_22) hisR ?_
  intro p e s m args below meth c s₁ Bd hml0 hP hK
  obtain ⟨rfl, hZ, hh⟩ := hP
  have hx := Bd.exec
  have hby := Bd.bytes
  have hml : c.maxLocals = 10 := hml0
  have hown : s.vm.findClass "java/util/Arrays" = some m.cls := findClass_of_methodNamed Bd.named
  have hnm := (name_of_methodNamed Bd.named Bd.method).1
  have X0 : Stand p l e R_b0_3 s m #[(.ref a1), (.int 0), (.int 3), (.long q4)] below meth c s₁ [] 0 0 := Stand.of_body Bd
  have e0 : s₁.heap = h0 := by rw [← hh, Bd.state]; rfl
  have N0 := Fr.nil n0
  have pre0 : ∀ t, Steps p.tables e below (s₁.setTop (mkF m 0 #[uR a1, uI 0, uI 3, uL q4, uS, uU, uU, uU, uU, uU] [])) t → Steps p.tables e below (s₁.setTop (entryFrame m #[(.ref a1), (.int 0), (.int 3), (.long q4)] 10)) t := fun t k => castTop (ef_b0_3 m a1 (0 : Int32) (3 : Int32) q4) k
  obtain ⟨car1, Aar1, qar1, Sar1, Nar1, Har1, Gar1⟩ := id V_a1
  have hinar1 : ¬ ((1 : Int32) < 0 ∨ car1.slots.size ≤ ((1 : Int32)).toNatClampNeg) := inb_of Sar1 ⟨by decide, by decide⟩
  have hatar1 : car1.slots[((1 : Int32)).toNatClampNeg]? = some (.long 20) := Har1.at hinar1 rfl
  have pre2 : ∀ t, Steps p.tables e below (s₁.setTop (mkF m 34 #[uR a1, uI 0, uI 3, uL q4, uS, uI 0, uI 2, uI 1, uL 20, uS] [(.int (lcmpW (20 : Int64) q4))])) t → Steps p.tables e below (s₁.setTop (entryFrame m #[(.ref a1), (.int 0), (.int 3), (.long q4)] 10)) t := fun t k => pre0 t (by
    show Steps p.tables e below (s₁.setTop (mkF m 0 #[uR a1, uI 0, uI 3, uL q4, uS, uU, uU, uU, uU, uU] [])) _
    refine XS.iloadN X0.here hx rfl (hb hby d7_0) rfl ?_
    refine XS.istore X0.here hx rfl (hb hby d7_1) rfl (l' := #[uR a1, uI 0, uI 3, uL q4, uS, uI 0, uU, uU, uU, uU]) rfl ?_
    refine XS.iloadN X0.here hx rfl (hb hby d7_3) rfl ?_
    refine XS.iconst X0.here hx rfl (hb hby d7_4) ?_
    refine XS.isub X0.here hx rfl (hb hby d7_5) rfl ?_
    refine XS.istore X0.here hx rfl (hb hby d7_6) rfl (l' := #[uR a1, uI 0, uI 3, uL q4, uS, uI 0, uI 2, uU, uU, uU]) rfl ?_
    refine XS.iload X0.here hx rfl (hb hby d7_8) rfl ?_
    refine XS.iload X0.here hx rfl (hb hby d7_10) rfl ?_
    show Steps p.tables e below (s₁.setTop (mkF m 12 #[uR a1, uI 0, uI 3, uL q4, uS, uI 0, uI 2, uU, uU, uU] [(.int 2), (.int 0)])) _
    refine XS.icmpNo X0.here hx rfl (hb hby d7_12) rfl (flt (by decide : ¬ ((2 : Int32) < (0 : Int32)))).2.2.1 ?_
    refine XS.iload X0.here hx rfl (hb hby d7_15) rfl ?_
    refine XS.iload X0.here hx rfl (hb hby d7_17) rfl ?_
    refine XS.iadd X0.here hx rfl (hb hby d7_19) rfl ?_
    refine XS.iconst X0.here hx rfl (hb hby d7_20) ?_
    refine XS.iushr X0.here hx rfl (hb hby d7_21) rfl ?_
    refine XS.istore X0.here hx rfl (hb hby d7_22) rfl (l' := #[uR a1, uI 0, uI 3, uL q4, uS, uI 0, uI 2, uI 1, uU, uU]) rfl ?_
    refine XS.aloadN X0.here hx rfl (hb hby d7_24) rfl rfl ?_
    show Steps p.tables e below (s₁.setTop (mkF m 25 #[uR a1, uI 0, uI 3, uL q4, uS, uI 0, uI 2, uI 1, uU, uU] [(.ref a1)])) _
    refine XS.iload X0.here hx rfl (hb hby d7_25) rfl ?_
    refine X0.laload hx (j := (1 : Int32)) (v := (.long 20)) (by rw [e0]; exact Aar1.1) (State.isArrayOf_alike hZ.alike Aar1.2.1) Aar1.2.2 hinar1 hatar1 (g := (mkF m 27 #[uR a1, uI 0, uI 3, uL q4, uS, uI 0, uI 2, uI 1, uU, uU] [(.int 1), (.ref a1)])) rfl rfl (hb hby d7_27) _ ?_
    refine XS.lstore X0.here hx rfl (hb hby d7_28) rfl (l' := #[uR a1, uI 0, uI 3, uL q4, uS, uI 0, uI 2, uI 1, uL 20, uS]) rfl ?_
    refine XS.lload X0.here hx rfl (hb hby d7_30) rfl ?_
    refine XS.lloadN X0.here hx rfl (hb hby d7_32) rfl ?_
    refine XS.lcmp X0.here hx rfl (hb hby d7_33) rfl ?_
    exact k)
  by_cases hc3 : (20 : Int64) < q4
  ·  -- pc 34: (20 : Int64) < q4
    obtain ⟨car4, Aar4, qar4, Sar4, Nar4, Har4, Gar4⟩ := id V_a1
    have hinar4 : ¬ ((2 : Int32) < 0 ∨ car4.slots.size ≤ ((2 : Int32)).toNatClampNeg) := inb_of Sar4 ⟨by decide, by decide⟩
    have hatar4 : car4.slots[((2 : Int32)).toNatClampNeg]? = some (.long 30) := Har4.at hinar4 rfl
    have pre5 : ∀ t, Steps p.tables e below (s₁.setTop (mkF m 34 #[uR a1, uI 0, uI 3, uL q4, uS, uI 2, uI 2, uI 2, uL 30, uS] [(.int (lcmpW (30 : Int64) q4))])) t → Steps p.tables e below (s₁.setTop (entryFrame m #[(.ref a1), (.int 0), (.int 3), (.long q4)] 10)) t := fun t k => pre2 t (by
      show Steps p.tables e below (s₁.setTop (mkF m 34 #[uR a1, uI 0, uI 3, uL q4, uS, uI 0, uI 2, uI 1, uL 20, uS] [(.int (lcmpW (20 : Int64) q4))])) _
      refine XS.ifNo X0.here hx rfl (hb hby d7_34) rfl ((if0 _ _).trans (tlt ((lw_lt _ _).mpr hc3)).2.1) ?_
      refine XS.iload X0.here hx rfl (hb hby d7_37) rfl ?_
      refine XS.iconst X0.here hx rfl (hb hby d7_39) ?_
      refine XS.iadd X0.here hx rfl (hb hby d7_40) rfl ?_
      refine XS.istore X0.here hx rfl (hb hby d7_41) rfl (l' := #[uR a1, uI 0, uI 3, uL q4, uS, uI 2, uI 2, uI 1, uL 20, uS]) rfl ?_
      refine XS.goto X0.here hx rfl (pc0 := 43) (pc' := 65) rfl (hb hby d7_43) (by decide) (by decide) ?_
      refine XS.goto X0.here hx rfl (pc0 := 65) (pc' := 8) rfl (hb hby d7_65) (by decide) (by decide) ?_
      refine XS.iload X0.here hx rfl (hb hby d7_8) rfl ?_
      refine XS.iload X0.here hx rfl (hb hby d7_10) rfl ?_
      show Steps p.tables e below (s₁.setTop (mkF m 12 #[uR a1, uI 0, uI 3, uL q4, uS, uI 2, uI 2, uI 1, uL 20, uS] [(.int 2), (.int 2)])) _
      refine XS.icmpNo X0.here hx rfl (hb hby d7_12) rfl (flt (by decide : ¬ ((2 : Int32) < (2 : Int32)))).2.2.1 ?_
      show Steps p.tables e below (s₁.setTop (mkF m 15 #[uR a1, uI 0, uI 3, uL q4, uS, uI 2, uI 2, uI 1, uL 20, uS] [])) _
      refine XS.iload X0.here hx rfl (hb hby d7_15) rfl ?_
      refine XS.iload X0.here hx rfl (hb hby d7_17) rfl ?_
      refine XS.iadd X0.here hx rfl (hb hby d7_19) rfl ?_
      refine XS.iconst X0.here hx rfl (hb hby d7_20) ?_
      refine XS.iushr X0.here hx rfl (hb hby d7_21) rfl ?_
      refine XS.istore X0.here hx rfl (hb hby d7_22) rfl (l' := #[uR a1, uI 0, uI 3, uL q4, uS, uI 2, uI 2, uI 2, uL 20, uS]) rfl ?_
      refine XS.aloadN X0.here hx rfl (hb hby d7_24) rfl rfl ?_
      refine XS.iload X0.here hx rfl (hb hby d7_25) rfl ?_
      refine X0.laload hx (j := (2 : Int32)) (v := (.long 30)) (by rw [e0]; exact Aar4.1) (State.isArrayOf_alike hZ.alike Aar4.2.1) Aar4.2.2 hinar4 hatar4 (g := (mkF m 27 #[uR a1, uI 0, uI 3, uL q4, uS, uI 2, uI 2, uI 2, uL 20, uS] [(.int 2), (.ref a1)])) rfl rfl (hb hby d7_27) _ ?_
      refine XS.lstore X0.here hx rfl (hb hby d7_28) rfl (l' := #[uR a1, uI 0, uI 3, uL q4, uS, uI 2, uI 2, uI 2, uL 30, uS]) rfl ?_
      refine XS.lload X0.here hx rfl (hb hby d7_30) rfl ?_
      refine XS.lloadN X0.here hx rfl (hb hby d7_32) rfl ?_
      refine XS.lcmp X0.here hx rfl (hb hby d7_33) rfl ?_
      exact k)
    by_cases hc6 : (30 : Int64) < q4
    ·  -- pc 34: (30 : Int64) < q4
      obtain ⟨fs, hr, hrun, hended, hW, hsame⟩ := X0.leave (v := some (.int (-4))) (fun h => by rw [Bd.returns] at h; cases h) Bd.notSynchronized
      refine ⟨_, _, pre5 _ ?_, hrun, hended, _, _, rfl, ?_, ⟨_, rfl⟩, hW, hsame.mono (by decide) (by decide)⟩
      · show Steps p.tables e below (s₁.setTop (mkF m 34 #[uR a1, uI 0, uI 3, uL q4, uS, uI 2, uI 2, uI 2, uL 30, uS] [(.int (lcmpW (30 : Int64) q4))])) _
        refine XS.ifNo X0.here hx rfl (hb hby d7_34) rfl ((if0 _ _).trans (tlt ((lw_lt _ _).mpr hc6)).2.1) ?_
        refine XS.iload X0.here hx rfl (hb hby d7_37) rfl ?_
        refine XS.iconst X0.here hx rfl (hb hby d7_39) ?_
        show Steps p.tables e below (s₁.setTop (mkF m 40 #[uR a1, uI 0, uI 3, uL q4, uS, uI 2, uI 2, uI 2, uL 30, uS] [(.int 1), (.int 2)])) _
        refine XS.iadd X0.here hx rfl (hb hby d7_40) rfl ?_
        refine XS.istore X0.here hx rfl (hb hby d7_41) rfl (l' := #[uR a1, uI 0, uI 3, uL q4, uS, uI 3, uI 2, uI 2, uL 30, uS]) rfl ?_
        refine XS.goto X0.here hx rfl (pc0 := 43) (pc' := 65) rfl (hb hby d7_43) (by decide) (by decide) ?_
        refine XS.goto X0.here hx rfl (pc0 := 65) (pc' := 8) rfl (hb hby d7_65) (by decide) (by decide) ?_
        refine XS.iload X0.here hx rfl (hb hby d7_8) rfl ?_
        refine XS.iload X0.here hx rfl (hb hby d7_10) rfl ?_
        show Steps p.tables e below (s₁.setTop (mkF m 12 #[uR a1, uI 0, uI 3, uL q4, uS, uI 3, uI 2, uI 2, uL 30, uS] [(.int 2), (.int 3)])) _
        refine XS.icmpYes X0.here hx rfl (pc0 := 12) (pc' := 68) rfl (hb hby d7_12) rfl (tlt (by decide : (2 : Int32) < (3 : Int32))).2.2.1 (by decide) (by decide) ?_
        refine XS.iload X0.here hx rfl (hb hby d7_68) rfl ?_
        refine XS.iconst X0.here hx rfl (hb hby d7_70) ?_
        refine XS.iadd X0.here hx rfl (hb hby d7_71) rfl ?_
        refine XS.ineg X0.here hx rfl (hb hby d7_72) rfl ?_
        exact retI X0 hx Bd.returns (hb hby d7_73) hr
      · show Qb0_3 Z a1 q4 k1 h0 n0 _ s₁.heap _
        rw [e0]
        exact ⟨(by unfold fb0_3; rw [if_pos hc3, if_pos hc6]), N0, rfl⟩
    ·  -- pc 34: not (30 : Int64) < q4
      have pre7 : ∀ t, Steps p.tables e below (s₁.setTop (mkF m 50 #[uR a1, uI 0, uI 3, uL q4, uS, uI 2, uI 2, uI 2, uL 30, uS] [(.int (lcmpW (30 : Int64) q4))])) t → Steps p.tables e below (s₁.setTop (entryFrame m #[(.ref a1), (.int 0), (.int 3), (.long q4)] 10)) t := fun t k => pre5 t (by
        show Steps p.tables e below (s₁.setTop (mkF m 34 #[uR a1, uI 0, uI 3, uL q4, uS, uI 2, uI 2, uI 2, uL 30, uS] [(.int (lcmpW (30 : Int64) q4))])) _
        refine XS.ifYes X0.here hx rfl (pc0 := 34) (pc' := 46) rfl (hb hby d7_34) rfl ((if0 _ _).trans (flt (mt (lw_lt _ _).mp hc6)).2.1) (by decide) (by decide) ?_
        refine XS.lload X0.here hx rfl (hb hby d7_46) rfl ?_
        refine XS.lloadN X0.here hx rfl (hb hby d7_48) rfl ?_
        show Steps p.tables e below (s₁.setTop (mkF m 49 #[uR a1, uI 0, uI 3, uL q4, uS, uI 2, uI 2, uI 2, uL 30, uS] [(.long q4), (.long 30)])) _
        refine XS.lcmp X0.here hx rfl (hb hby d7_49) rfl ?_
        exact k)
      by_cases hc8 : q4 < (30 : Int64)
      ·  -- pc 50: q4 < (30 : Int64)
        obtain ⟨fs, hr, hrun, hended, hW, hsame⟩ := X0.leave (v := some (.int (-3))) (fun h => by rw [Bd.returns] at h; cases h) Bd.notSynchronized
        refine ⟨_, _, pre7 _ ?_, hrun, hended, _, _, rfl, ?_, ⟨_, rfl⟩, hW, hsame.mono (by decide) (by decide)⟩
        · show Steps p.tables e below (s₁.setTop (mkF m 50 #[uR a1, uI 0, uI 3, uL q4, uS, uI 2, uI 2, uI 2, uL 30, uS] [(.int (lcmpW (30 : Int64) q4))])) _
          refine XS.ifNo X0.here hx rfl (hb hby d7_50) rfl ((if0 _ _).trans (tlt ((lw_gt _ _).mpr hc8)).2.2.2) ?_
          refine XS.iload X0.here hx rfl (hb hby d7_53) rfl ?_
          refine XS.iconst X0.here hx rfl (hb hby d7_55) ?_
          refine XS.isub X0.here hx rfl (hb hby d7_56) rfl ?_
          refine XS.istore X0.here hx rfl (hb hby d7_57) rfl (l' := #[uR a1, uI 0, uI 3, uL q4, uS, uI 2, uI 1, uI 2, uL 30, uS]) rfl ?_
          refine XS.goto X0.here hx rfl (pc0 := 59) (pc' := 65) rfl (hb hby d7_59) (by decide) (by decide) ?_
          refine XS.goto X0.here hx rfl (pc0 := 65) (pc' := 8) rfl (hb hby d7_65) (by decide) (by decide) ?_
          refine XS.iload X0.here hx rfl (hb hby d7_8) rfl ?_
          refine XS.iload X0.here hx rfl (hb hby d7_10) rfl ?_
          show Steps p.tables e below (s₁.setTop (mkF m 12 #[uR a1, uI 0, uI 3, uL q4, uS, uI 2, uI 1, uI 2, uL 30, uS] [(.int 1), (.int 2)])) _
          refine XS.icmpYes X0.here hx rfl (pc0 := 12) (pc' := 68) rfl (hb hby d7_12) rfl (tlt (by decide : (1 : Int32) < (2 : Int32))).2.2.1 (by decide) (by decide) ?_
          refine XS.iload X0.here hx rfl (hb hby d7_68) rfl ?_
          refine XS.iconst X0.here hx rfl (hb hby d7_70) ?_
          refine XS.iadd X0.here hx rfl (hb hby d7_71) rfl ?_
          refine XS.ineg X0.here hx rfl (hb hby d7_72) rfl ?_
          exact retI X0 hx Bd.returns (hb hby d7_73) hr
        · show Qb0_3 Z a1 q4 k1 h0 n0 _ s₁.heap _
          rw [e0]
          exact ⟨(by unfold fb0_3; rw [if_pos hc3, if_neg hc6, if_pos hc8]), N0, rfl⟩
      ·  -- pc 50: not q4 < (30 : Int64)
        obtain ⟨fs, hr, hrun, hended, hW, hsame⟩ := X0.leave (v := some (.int 2)) (fun h => by rw [Bd.returns] at h; cases h) Bd.notSynchronized
        refine ⟨_, _, pre7 _ ?_, hrun, hended, _, _, rfl, ?_, ⟨_, rfl⟩, hW, hsame.mono (by decide) (by decide)⟩
        · show Steps p.tables e below (s₁.setTop (mkF m 50 #[uR a1, uI 0, uI 3, uL q4, uS, uI 2, uI 2, uI 2, uL 30, uS] [(.int (lcmpW (30 : Int64) q4))])) _
          refine XS.ifYes X0.here hx rfl (pc0 := 50) (pc' := 62) rfl (hb hby d7_50) rfl ((if0 _ _).trans (flt (mt (lw_gt _ _).mp hc8)).2.2.2) (by decide) (by decide) ?_
          refine XS.iload X0.here hx rfl (hb hby d7_62) rfl ?_
          exact retI X0 hx Bd.returns (hb hby d7_64) hr
        · show Qb0_3 Z a1 q4 k1 h0 n0 _ s₁.heap _
          rw [e0]
          exact ⟨(by unfold fb0_3; rw [if_pos hc3, if_neg hc6, if_neg hc8]), N0, rfl⟩
  ·  -- pc 34: not (20 : Int64) < q4
    have pre9 : ∀ t, Steps p.tables e below (s₁.setTop (mkF m 50 #[uR a1, uI 0, uI 3, uL q4, uS, uI 0, uI 2, uI 1, uL 20, uS] [(.int (lcmpW (20 : Int64) q4))])) t → Steps p.tables e below (s₁.setTop (entryFrame m #[(.ref a1), (.int 0), (.int 3), (.long q4)] 10)) t := fun t k => pre2 t (by
      show Steps p.tables e below (s₁.setTop (mkF m 34 #[uR a1, uI 0, uI 3, uL q4, uS, uI 0, uI 2, uI 1, uL 20, uS] [(.int (lcmpW (20 : Int64) q4))])) _
      refine XS.ifYes X0.here hx rfl (pc0 := 34) (pc' := 46) rfl (hb hby d7_34) rfl ((if0 _ _).trans (flt (mt (lw_lt _ _).mp hc3)).2.1) (by decide) (by decide) ?_
      refine XS.lload X0.here hx rfl (hb hby d7_46) rfl ?_
      refine XS.lloadN X0.here hx rfl (hb hby d7_48) rfl ?_
      refine XS.lcmp X0.here hx rfl (hb hby d7_49) rfl ?_
      exact k)
    by_cases hc10 : q4 < (20 : Int64)
    ·  -- pc 50: q4 < (20 : Int64)
      obtain ⟨car11, Aar11, qar11, Sar11, Nar11, Har11, Gar11⟩ := id V_a1
      have hinar11 : ¬ ((0 : Int32) < 0 ∨ car11.slots.size ≤ ((0 : Int32)).toNatClampNeg) := inb_of Sar11 ⟨by decide, by decide⟩
      have hatar11 : car11.slots[((0 : Int32)).toNatClampNeg]? = some (.long 10) := Har11.at hinar11 rfl
      have pre12 : ∀ t, Steps p.tables e below (s₁.setTop (mkF m 34 #[uR a1, uI 0, uI 3, uL q4, uS, uI 0, uI 0, uI 0, uL 10, uS] [(.int (lcmpW (10 : Int64) q4))])) t → Steps p.tables e below (s₁.setTop (entryFrame m #[(.ref a1), (.int 0), (.int 3), (.long q4)] 10)) t := fun t k => pre9 t (by
        show Steps p.tables e below (s₁.setTop (mkF m 50 #[uR a1, uI 0, uI 3, uL q4, uS, uI 0, uI 2, uI 1, uL 20, uS] [(.int (lcmpW (20 : Int64) q4))])) _
        refine XS.ifNo X0.here hx rfl (hb hby d7_50) rfl ((if0 _ _).trans (tlt ((lw_gt _ _).mpr hc10)).2.2.2) ?_
        refine XS.iload X0.here hx rfl (hb hby d7_53) rfl ?_
        refine XS.iconst X0.here hx rfl (hb hby d7_55) ?_
        refine XS.isub X0.here hx rfl (hb hby d7_56) rfl ?_
        refine XS.istore X0.here hx rfl (hb hby d7_57) rfl (l' := #[uR a1, uI 0, uI 3, uL q4, uS, uI 0, uI 0, uI 1, uL 20, uS]) rfl ?_
        refine XS.goto X0.here hx rfl (pc0 := 59) (pc' := 65) rfl (hb hby d7_59) (by decide) (by decide) ?_
        show Steps p.tables e below (s₁.setTop (mkF m 65 #[uR a1, uI 0, uI 3, uL q4, uS, uI 0, uI 0, uI 1, uL 20, uS] [])) _
        refine XS.goto X0.here hx rfl (pc0 := 65) (pc' := 8) rfl (hb hby d7_65) (by decide) (by decide) ?_
        refine XS.iload X0.here hx rfl (hb hby d7_8) rfl ?_
        refine XS.iload X0.here hx rfl (hb hby d7_10) rfl ?_
        show Steps p.tables e below (s₁.setTop (mkF m 12 #[uR a1, uI 0, uI 3, uL q4, uS, uI 0, uI 0, uI 1, uL 20, uS] [(.int 0), (.int 0)])) _
        refine XS.icmpNo X0.here hx rfl (hb hby d7_12) rfl (flt (by decide : ¬ ((0 : Int32) < (0 : Int32)))).2.2.1 ?_
        refine XS.iload X0.here hx rfl (hb hby d7_15) rfl ?_
        refine XS.iload X0.here hx rfl (hb hby d7_17) rfl ?_
        refine XS.iadd X0.here hx rfl (hb hby d7_19) rfl ?_
        refine XS.iconst X0.here hx rfl (hb hby d7_20) ?_
        refine XS.iushr X0.here hx rfl (hb hby d7_21) rfl ?_
        refine XS.istore X0.here hx rfl (hb hby d7_22) rfl (l' := #[uR a1, uI 0, uI 3, uL q4, uS, uI 0, uI 0, uI 0, uL 20, uS]) rfl ?_
        refine XS.aloadN X0.here hx rfl (hb hby d7_24) rfl rfl ?_
        refine XS.iload X0.here hx rfl (hb hby d7_25) rfl ?_
        refine X0.laload hx (j := (0 : Int32)) (v := (.long 10)) (by rw [e0]; exact Aar11.1) (State.isArrayOf_alike hZ.alike Aar11.2.1) Aar11.2.2 hinar11 hatar11 (g := (mkF m 27 #[uR a1, uI 0, uI 3, uL q4, uS, uI 0, uI 0, uI 0, uL 20, uS] [(.int 0), (.ref a1)])) rfl rfl (hb hby d7_27) _ ?_
        refine XS.lstore X0.here hx rfl (hb hby d7_28) rfl (l' := #[uR a1, uI 0, uI 3, uL q4, uS, uI 0, uI 0, uI 0, uL 10, uS]) rfl ?_
        refine XS.lload X0.here hx rfl (hb hby d7_30) rfl ?_
        refine XS.lloadN X0.here hx rfl (hb hby d7_32) rfl ?_
        show Steps p.tables e below (s₁.setTop (mkF m 33 #[uR a1, uI 0, uI 3, uL q4, uS, uI 0, uI 0, uI 0, uL 10, uS] [(.long q4), (.long 10)])) _
        refine XS.lcmp X0.here hx rfl (hb hby d7_33) rfl ?_
        exact k)
      by_cases hc13 : (10 : Int64) < q4
      ·  -- pc 34: (10 : Int64) < q4
        obtain ⟨fs, hr, hrun, hended, hW, hsame⟩ := X0.leave (v := some (.int (-2))) (fun h => by rw [Bd.returns] at h; cases h) Bd.notSynchronized
        refine ⟨_, _, pre12 _ ?_, hrun, hended, _, _, rfl, ?_, ⟨_, rfl⟩, hW, hsame.mono (by decide) (by decide)⟩
        · show Steps p.tables e below (s₁.setTop (mkF m 34 #[uR a1, uI 0, uI 3, uL q4, uS, uI 0, uI 0, uI 0, uL 10, uS] [(.int (lcmpW (10 : Int64) q4))])) _
          refine XS.ifNo X0.here hx rfl (hb hby d7_34) rfl ((if0 _ _).trans (tlt ((lw_lt _ _).mpr hc13)).2.1) ?_
          refine XS.iload X0.here hx rfl (hb hby d7_37) rfl ?_
          refine XS.iconst X0.here hx rfl (hb hby d7_39) ?_
          refine XS.iadd X0.here hx rfl (hb hby d7_40) rfl ?_
          refine XS.istore X0.here hx rfl (hb hby d7_41) rfl (l' := #[uR a1, uI 0, uI 3, uL q4, uS, uI 1, uI 0, uI 0, uL 10, uS]) rfl ?_
          refine XS.goto X0.here hx rfl (pc0 := 43) (pc' := 65) rfl (hb hby d7_43) (by decide) (by decide) ?_
          refine XS.goto X0.here hx rfl (pc0 := 65) (pc' := 8) rfl (hb hby d7_65) (by decide) (by decide) ?_
          refine XS.iload X0.here hx rfl (hb hby d7_8) rfl ?_
          refine XS.iload X0.here hx rfl (hb hby d7_10) rfl ?_
          show Steps p.tables e below (s₁.setTop (mkF m 12 #[uR a1, uI 0, uI 3, uL q4, uS, uI 1, uI 0, uI 0, uL 10, uS] [(.int 0), (.int 1)])) _
          refine XS.icmpYes X0.here hx rfl (pc0 := 12) (pc' := 68) rfl (hb hby d7_12) rfl (tlt (by decide : (0 : Int32) < (1 : Int32))).2.2.1 (by decide) (by decide) ?_
          refine XS.iload X0.here hx rfl (hb hby d7_68) rfl ?_
          refine XS.iconst X0.here hx rfl (hb hby d7_70) ?_
          refine XS.iadd X0.here hx rfl (hb hby d7_71) rfl ?_
          refine XS.ineg X0.here hx rfl (hb hby d7_72) rfl ?_
          exact retI X0 hx Bd.returns (hb hby d7_73) hr
        · show Qb0_3 Z a1 q4 k1 h0 n0 _ s₁.heap _
          rw [e0]
          exact ⟨(by unfold fb0_3; rw [if_neg hc3, if_pos hc10, if_pos hc13]), N0, rfl⟩
      ·  -- pc 34: not (10 : Int64) < q4
        have pre14 : ∀ t, Steps p.tables e below (s₁.setTop (mkF m 50 #[uR a1, uI 0, uI 3, uL q4, uS, uI 0, uI 0, uI 0, uL 10, uS] [(.int (lcmpW (10 : Int64) q4))])) t → Steps p.tables e below (s₁.setTop (entryFrame m #[(.ref a1), (.int 0), (.int 3), (.long q4)] 10)) t := fun t k => pre12 t (by
          show Steps p.tables e below (s₁.setTop (mkF m 34 #[uR a1, uI 0, uI 3, uL q4, uS, uI 0, uI 0, uI 0, uL 10, uS] [(.int (lcmpW (10 : Int64) q4))])) _
          refine XS.ifYes X0.here hx rfl (pc0 := 34) (pc' := 46) rfl (hb hby d7_34) rfl ((if0 _ _).trans (flt (mt (lw_lt _ _).mp hc13)).2.1) (by decide) (by decide) ?_
          refine XS.lload X0.here hx rfl (hb hby d7_46) rfl ?_
          refine XS.lloadN X0.here hx rfl (hb hby d7_48) rfl ?_
          refine XS.lcmp X0.here hx rfl (hb hby d7_49) rfl ?_
          exact k)
        by_cases hc15 : q4 < (10 : Int64)
        ·  -- pc 50: q4 < (10 : Int64)
          obtain ⟨fs, hr, hrun, hended, hW, hsame⟩ := X0.leave (v := some (.int (-1))) (fun h => by rw [Bd.returns] at h; cases h) Bd.notSynchronized
          refine ⟨_, _, pre14 _ ?_, hrun, hended, _, _, rfl, ?_, ⟨_, rfl⟩, hW, hsame.mono (by decide) (by decide)⟩
          · show Steps p.tables e below (s₁.setTop (mkF m 50 #[uR a1, uI 0, uI 3, uL q4, uS, uI 0, uI 0, uI 0, uL 10, uS] [(.int (lcmpW (10 : Int64) q4))])) _
            refine XS.ifNo X0.here hx rfl (hb hby d7_50) rfl ((if0 _ _).trans (tlt ((lw_gt _ _).mpr hc15)).2.2.2) ?_
            refine XS.iload X0.here hx rfl (hb hby d7_53) rfl ?_
            refine XS.iconst X0.here hx rfl (hb hby d7_55) ?_
            refine XS.isub X0.here hx rfl (hb hby d7_56) rfl ?_
            refine XS.istore X0.here hx rfl (hb hby d7_57) rfl (l' := #[uR a1, uI 0, uI 3, uL q4, uS, uI 0, uI (-1 : Int32), uI 0, uL 10, uS]) rfl ?_
            refine XS.goto X0.here hx rfl (pc0 := 59) (pc' := 65) rfl (hb hby d7_59) (by decide) (by decide) ?_
            refine XS.goto X0.here hx rfl (pc0 := 65) (pc' := 8) rfl (hb hby d7_65) (by decide) (by decide) ?_
            refine XS.iload X0.here hx rfl (hb hby d7_8) rfl ?_
            refine XS.iload X0.here hx rfl (hb hby d7_10) rfl ?_
            show Steps p.tables e below (s₁.setTop (mkF m 12 #[uR a1, uI 0, uI 3, uL q4, uS, uI 0, uI (-1 : Int32), uI 0, uL 10, uS] [(.int (-1)), (.int 0)])) _
            refine XS.icmpYes X0.here hx rfl (pc0 := 12) (pc' := 68) rfl (hb hby d7_12) rfl (tlt (by decide : (-1 : Int32) < (0 : Int32))).2.2.1 (by decide) (by decide) ?_
            refine XS.iload X0.here hx rfl (hb hby d7_68) rfl ?_
            show Steps p.tables e below (s₁.setTop (mkF m 70 #[uR a1, uI 0, uI 3, uL q4, uS, uI 0, uI (-1 : Int32), uI 0, uL 10, uS] [(.int 0)])) _
            refine XS.iconst X0.here hx rfl (hb hby d7_70) ?_
            refine XS.iadd X0.here hx rfl (hb hby d7_71) rfl ?_
            refine XS.ineg X0.here hx rfl (hb hby d7_72) rfl ?_
            exact retI X0 hx Bd.returns (hb hby d7_73) hr
          · show Qb0_3 Z a1 q4 k1 h0 n0 _ s₁.heap _
            rw [e0]
            exact ⟨(by unfold fb0_3; rw [if_neg hc3, if_pos hc10, if_neg hc13, if_pos hc15]), N0, rfl⟩
        ·  -- pc 50: not q4 < (10 : Int64)
          obtain ⟨fs, hr, hrun, hended, hW, hsame⟩ := X0.leave (v := some (.int 0)) (fun h => by rw [Bd.returns] at h; cases h) Bd.notSynchronized
          refine ⟨_, _, pre14 _ ?_, hrun, hended, _, _, rfl, ?_, ⟨_, rfl⟩, hW, hsame.mono (by decide) (by decide)⟩
          · show Steps p.tables e below (s₁.setTop (mkF m 50 #[uR a1, uI 0, uI 3, uL q4, uS, uI 0, uI 0, uI 0, uL 10, uS] [(.int (lcmpW (10 : Int64) q4))])) _
            refine XS.ifYes X0.here hx rfl (pc0 := 50) (pc' := 62) rfl (hb hby d7_50) rfl ((if0 _ _).trans (flt (mt (lw_gt _ _).mp hc15)).2.2.2) (by decide) (by decide) ?_
            refine XS.iload X0.here hx rfl (hb hby d7_62) rfl ?_
            exact retI X0 hx Bd.returns (hb hby d7_64) hr
          · show Qb0_3 Z a1 q4 k1 h0 n0 _ s₁.heap _
            rw [e0]
            exact ⟨(by unfold fb0_3; rw [if_neg hc3, if_pos hc10, if_neg hc13, if_neg hc15]), N0, rfl⟩
    ·  -- pc 50: not q4 < (20 : Int64)
      obtain ⟨fs, hr, hrun, hended, hW, hsame⟩ := X0.leave (v := some (.int 1)) (fun h => by rw [Bd.returns] at h; cases h) Bd.notSynchronized
      refine ⟨_, _, pre9 _ ?_, hrun, hended, _, _, rfl, ?_, ⟨_, rfl⟩, hW, hsame.mono (by decide) (by decide)⟩
      · show Steps p.tables e below (s₁.setTop (mkF m 50 #[uR a1, uI 0, uI 3, uL q4, uS, uI 0, uI 2, uI 1, uL 20, uS] [(.int (lcmpW (20 : Int64) q4))])) _
        refine XS.ifYes X0.here hx rfl (pc0 := 50) (pc' := 62) rfl (hb hby d7_50) rfl ((if0 _ _).trans (flt (mt (lw_gt _ _).mp hc10)).2.2.2) (by decide) (by decide) ?_
        refine XS.iload X0.here hx rfl (hb hby d7_62) rfl ?_
        exact retI X0 hx Bd.returns (hb hby d7_64) hr
      · show Qb0_3 Z a1 q4 k1 h0 n0 _ s₁.heap _
        rw [e0]
        exact ⟨(by unfold fb0_3; rw [if_neg hc3, if_neg hc10]), N0, rfl⟩
theorem ef_bs_3 (m : MethodId) (x0 : Addr) (x1 : Int32) (x2 : Int32) (x3 : Int64) : entryFrame m #[(.ref x0), (.int x1), (.int x2), (.long x3)] 5 = mkF m 0 #[.val (.ref x0), .val (.int x1), .val (.int x2), .val (.long x3), .second] [] := by first | (simp [entryFrame, mkF, argsToLocals, Value.category]; done) | rfl
abbrev R_bs_3 : Room := { frames := 1, cells := 0, slots := 0, locals := 21 }
def Qbs_3 (Z : State) (a1 : Addr) (q4 : Int64) (k1 : ClassId) (h0 : Heap) (n0 : Nat) (v : Option Value) (h : Heap) (L : List Loc) : Prop := v = some (.int (fb0_3 q4)) ∧ Fr n0 L ∧ h = h0
set_option maxRecDepth 65536 in
set_option maxHeartbeats 40000000 in
theorem rmbs_3 (l : Launch) (Z : State) (a0 : Array Value) (hw : ∀ d ∈ tables_1, d.before a0 Z = true) (ws : List Jvm.Cond) (a1 : Addr) (q4 : Int64) (k1 : ClassId) (h0 : Heap) (n0 : Nat) (Z0 : n0 ≤ h0.size) (V_a1 : Arv Z h0 a1 k1 .long (8 : Int32) [(.long 10), (.long 20), (.long 30), (.long 0), (.long 0), (.long 0), (.long 0), (.long 0)] (.long 0)) :
    MetFree l (⟨"java/util/Arrays", "binarySearch", "([JIIJ)I"⟩ : MethodName) (head1 (Jvm.Cond.code (⟨"java/util/Arrays", "binarySearch", "([JIIJ)I"⟩ : MethodName) jdk_65_method_55_code 5 (some .int) :: ws) R_bs_3) (fun a U => a = #[(.ref a1), (.int 0), (.int 3), (.long q4)] ∧ Z.Warmed39 U.vm ∧ U.heap = h0) (fun _ _ _ _ _ => True) (fun _ U o U' => ∃ v L, o = .returned v ∧ Qbs_3 Z a1 q4 k1 h0 n0 v U'.heap L ∧ FrameEnd U o U' L R_bs_3.cells R_bs_3.slots) := by
  refine MetFree.of_bodySF (plainFor_of_name pn_22) hisR ?_
  intro p e s m args below meth c s₁ Bd hml0 hP hK
  obtain ⟨rfl, hZ, hh⟩ := hP
  have hx := Bd.exec
  have hby := Bd.bytes
  have hml : c.maxLocals = 5 := hml0
  have hown : s.vm.findClass "java/util/Arrays" = some m.cls := findClass_of_methodNamed Bd.named
  have hnm := (name_of_methodNamed Bd.named Bd.method).1
  have X0 : Stand p l e R_bs_3 s m #[(.ref a1), (.int 0), (.int 3), (.long q4)] below meth c s₁ [] 0 0 := Stand.of_body Bd
  have e0 : s₁.heap = h0 := by rw [← hh, Bd.state]; rfl
  have N0 := Fr.nil n0
  have pre0 : ∀ t, Steps p.tables e below (s₁.setTop (mkF m 0 #[uR a1, uI 0, uI 3, uL q4, uS] [])) t → Steps p.tables e below (s₁.setTop (entryFrame m #[(.ref a1), (.int 0), (.int 3), (.long q4)] 5)) t := fun t k => castTop (ef_bs_3 m a1 (0 : Int32) (3 : Int32) q4) k
  obtain ⟨car1, Aar1, qar1, Sar1, Nar1, Har1, Gar1⟩ := id V_a1
  -- pc 4: Arrays.rangeCheck by rmrc
  obtain ⟨_, _, ⟨T2, L2, ck2, cn2⟩, -, X2, ⟨Lc2, hQ2, l2, y2, z2⟩, st2⟩ := Jvm.LawKit.callS X0 hx (y := (⟨"java/util/Arrays", "rangeCheck", "(III)V"⟩ : MethodName)) hown (mvT hZ (own_w hw (i := 33) rfl)) (mvT hZ (own_w hw (i := 34) rfl)) (mvT hZ (own_w hw (i := 31) rfl)) (mvT hZ (own_w hw (i := 35) rfl)) (by decide) (backOf (W := 0) (rmrc l Z a0 hw [] (8 : Int32) (0 : Int32) (3 : Int32) h0 n0 Z0 (by decide) (by decide) (by decide)) hZ (own_w hw (i := 35) rfl) (own_w hw (i := 31) rfl) (by decide) (by decide)) (g := (mkF m 4 #[uR a1, uI 0, uI 3, uL q4, uS] [(.int 3), (.int 0), (.int 8)])) rfl (by rw [hml]; rfl) (argsL := [(.int 8), (.int 0), (.int 3)]) (rest := []) (lenOf pd_177 rfl) rfl (by show 2 * 0 + _ ≤ _; exact Nat.le_of_eq rfl) (hb hby d5_4) (fun _ _ => ⟨rfl, e0, (by decide : 0 + 0 ≤ _), (by decide : 0 + 0 ≤ _)⟩)
  dsimp only [Pt.U, Pt.locs, Pt.cells, Pt.slots] at X2 l2 y2 z2 st2 hQ2
  subst y2 z2
  obtain ⟨rfl, N2q, e2⟩ := hQ2
  have N3 : Fr n0 L2 := by rw [l2]; exact Fr.app N0 N2q
  -- pc 11: Arrays.binarySearch0 by rmb0_3
  obtain ⟨_, _, ⟨T4, L4, ck4, cn4⟩, -, X4, ⟨Lc4, hQ4, l4, y4, z4⟩, st4⟩ := Jvm.LawKit.callS X2 hx (y := (⟨"java/util/Arrays", "binarySearch0", "([JIIJ)I"⟩ : MethodName)) hown (mvT hZ (own_w hw (i := 36) rfl)) (mvT hZ (own_w hw (i := 37) rfl)) (mvT hZ (own_w hw (i := 31) rfl)) (mvT hZ (own_w hw (i := 38) rfl)) (by decide) (backOf (W := 0) (rmb0_3 l Z a0 hw [] a1 q4 k1 h0 n0 Z0 V_a1) hZ (own_w hw (i := 38) rfl) (own_w hw (i := 31) rfl) (by decide) (by decide)) (g := (mkF m 11 #[uR a1, uI 0, uI 3, uL q4, uS] [(.long q4), (.int 3), (.int 0), (.ref a1)])) rfl (by rw [hml]; rfl) (argsL := [(.ref a1), (.int 0), (.int 3), (.long q4)]) (rest := []) (lenOf pd_183 rfl) rfl (by show 2 * 0 + _ ≤ _; exact Nat.le_of_eq rfl) (hb hby d5_11) (fun _ _ => ⟨rfl, e2, (by decide : 0 + 0 ≤ _), (by decide : 0 + 0 ≤ _)⟩)
  dsimp only [Pt.U, Pt.locs, Pt.cells, Pt.slots] at X4 l4 y4 z4 st4 hQ4
  subst y4 z4
  obtain ⟨rfl, N4q, e4⟩ := hQ4
  have N5 : Fr n0 L4 := by rw [l4]; exact Fr.app N3 N4q
  obtain ⟨fs, hr, hrun, hended, hW, hsame⟩ := X4.leave (v := some (.int (fb0_3 q4))) (fun h => by rw [Bd.returns] at h; cases h) Bd.notSynchronized
  refine ⟨_, _, pre0 _ ?_, hrun, hended, _, _, rfl, ?_, ⟨_, rfl⟩, hW, hsame.mono (by decide) (by decide)⟩
  · show Steps p.tables e below (s₁.setTop (mkF m 0 #[uR a1, uI 0, uI 3, uL q4, uS] [])) _
    refine XS.aloadN X0.here hx rfl (hb hby d5_0) rfl rfl ?_
    refine X0.arraylength hx (by rw [e0]; exact Aar1.1) (State.isArrayOf_alike hZ.alike Aar1.2.1) (g := (mkF m 1 #[uR a1, uI 0, uI 3, uL q4, uS] [(.ref a1)])) rfl rfl (hb hby d5_1) _ ?_
    rw [len_of Sar1 Nar1]
    refine XS.iloadN X0.here hx rfl (hb hby d5_2) rfl ?_
    refine XS.iloadN X0.here hx rfl (hb hby d5_3) rfl ?_
    refine st2 _ ?_
    refine XS.aloadN X2.here hx rfl (hb hby d5_7) rfl rfl ?_
    refine XS.iloadN X2.here hx rfl (hb hby d5_8) rfl ?_
    refine XS.iloadN X2.here hx rfl (hb hby d5_9) rfl ?_
    refine XS.lloadN X2.here hx rfl (hb hby d5_10) rfl ?_
    refine st4 _ ?_
    exact retI X4 hx Bd.returns (hb hby d5_14) hr
  · show Qbs_3 Z a1 q4 k1 h0 n0 _ T4.heap _
    rw [e4]
    exact ⟨rfl, N5, rfl⟩
theorem ef_la_3 (m : MethodId) (x0 : Addr) (x1 : Addr) (x2 : Int64) : entryFrame m #[(.ref x0), (.ref x1), (.long x2)] 5 = mkF m 0 #[.val (.ref x0), .val (.ref x1), .val (.long x2), .second, .unset] [] := by first | (simp [entryFrame, mkF, argsToLocals, Value.category]; done) | rfl
def fla_3 (q3 : Int64) : Int32 := if (fb0_3 q3) < (0 : Int32) then ((-(fb0_3 q3)) - (2 : Int32)) else (fb0_3 q3)
abbrev R_la_3 : Room := { frames := 2, cells := 0, slots := 0, locals := 37 }
def Qla_3 (Z : State) (a1 : Addr) (a2 : Addr) (q3 : Int64) (k1 : ClassId) (r : Int32) (h0 : Heap) (n0 : Nat) (v : Option Value) (h : Heap) (L : List Loc) : Prop := v = some (.int r) ∧ Fr n0 L ∧ h = h0
set_option maxRecDepth 65536 in
set_option maxHeartbeats 40000000 in
theorem rmla_3 (l : Launch) (Z : State) (a0 : Array Value) (hw : ∀ d ∈ tables_1, d.before a0 Z = true) (ws : List Jvm.Cond) (a1 : Addr) (a2 : Addr) (q3 : Int64) (k1 : ClassId) (r : Int32) (h0 : Heap) (n0 : Nat) (Z0 : n0 ≤ h0.size) (F_count_a1 : Fld Z h0 a1 KC "count" "I" (.int 3)) (V_a2 : Arv Z h0 a2 k1 .long (8 : Int32) [(.long 10), (.long 20), (.long 30), (.long 0), (.long 0), (.long 0), (.long 0), (.long 0)] (.long 0)) (hrr : (fla_3 q3) = r) :
    MetFree l (⟨KC, "lastAtOrBefore", "([JJ)I"⟩ : MethodName) (head1 (Jvm.Cond.code (⟨KC, "lastAtOrBefore", "([JJ)I"⟩ : MethodName) prog_126_method_14_code 5 (some .int) :: ws) R_la_3) (fun a U => a = #[(.ref a1), (.ref a2), (.long q3)] ∧ Z.Warmed39 U.vm ∧ U.heap = h0) (fun _ _ _ _ _ => True) (fun _ U o U' => ∃ v L, o = .returned v ∧ Qla_3 Z a1 a2 q3 k1 r h0 n0 v U'.heap L ∧ FrameEnd U o U' L R_la_3.cells R_la_3.slots) := by
  refine MetFree.of_bodySF (plainFor_of_name pn_55) hisR ?_
  intro p e s m args below meth c s₁ Bd hml0 hP hK
  obtain ⟨rfl, hZ, hh⟩ := hP
  have hx := Bd.exec
  have hby := Bd.bytes
  have hml : c.maxLocals = 5 := hml0
  have hown : s.vm.findClass KC = some m.cls := findClass_of_methodNamed Bd.named
  have hnm := (name_of_methodNamed Bd.named Bd.method).1
  have X0 : Stand p l e R_la_3 s m #[(.ref a1), (.ref a2), (.long q3)] below meth c s₁ [] 0 0 := Stand.of_body Bd
  have e0 : s₁.heap = h0 := by rw [← hh, Bd.state]; rfl
  have N0 := Fr.nil n0
  have pre0 : ∀ t, Steps p.tables e below (s₁.setTop (mkF m 0 #[uR a1, uR a2, uL q3, uS, uU] [])) t → Steps p.tables e below (s₁.setTop (entryFrame m #[(.ref a1), (.ref a2), (.long q3)] 5)) t := fun t k => castTop (ef_la_3 m a1 a2 q3) k
  obtain ⟨T1, X1, e1, st1⟩ := getF X0 hx hZ hown (host := "") (Or.inl (own_w hw (i := 27) rfl)) Via.refl e0 F_count_a1 (g := (mkF m 3 #[uR a1, uR a2, uL q3, uS, uU] [(.ref a1), (.int 0), (.ref a2)])) rfl rfl (hb hby d4_3)
  -- pc 7: Arrays.binarySearch by rmbs_3
  obtain ⟨_, _, ⟨T2, L2, ck2, cn2⟩, -, X2, ⟨Lc2, hQ2, l2, y2, z2⟩, st2⟩ := Jvm.LawKit.callS X1 hx (y := (⟨"java/util/Arrays", "binarySearch", "([JIIJ)I"⟩ : MethodName)) hown (mvT hZ (own_w hw (i := 29) rfl)) (mvT hZ (own_w hw (i := 30) rfl)) (mvT hZ (own_w hw (i := 31) rfl)) (mvT hZ (own_w hw (i := 32) rfl)) (by decide) (backOf (W := 0) (rmbs_3 l Z a0 hw [] a2 q3 k1 h0 n0 Z0 V_a2) hZ (own_w hw (i := 32) rfl) (own_w hw (i := 31) rfl) (by decide) (by decide)) (g := (mkF m 7 #[uR a1, uR a2, uL q3, uS, uU] [(.long q3), (.int 3), (.int 0), (.ref a2)])) rfl (by rw [hml]; rfl) (argsL := [(.ref a2), (.int 0), (.int 3), (.long q3)]) (rest := []) (lenOf pd_183 rfl) rfl (by show 2 * 0 + _ ≤ _; exact Nat.le_of_eq rfl) (hb hby d4_7) (fun _ _ => ⟨rfl, e1, (by decide : 0 + 0 ≤ _), (by decide : 0 + 0 ≤ _)⟩)
  dsimp only [Pt.U, Pt.locs, Pt.cells, Pt.slots] at X2 l2 y2 z2 st2 hQ2
  subst y2 z2
  obtain ⟨rfl, N2q, e2⟩ := hQ2
  have N3 : Fr n0 L2 := by rw [l2]; exact Fr.app N0 N2q
  have pre4 : ∀ t, Steps p.tables e below (T2.setTop (mkF m 14 #[uR a1, uR a2, uL q3, uS, uI (fb0_3 q3)] [(.int (fb0_3 q3))])) t → Steps p.tables e below (s₁.setTop (entryFrame m #[(.ref a1), (.ref a2), (.long q3)] 5)) t := fun t k => pre0 t (by
    show Steps p.tables e below (s₁.setTop (mkF m 0 #[uR a1, uR a2, uL q3, uS, uU] [])) _
    refine XS.aloadN X0.here hx rfl (hb hby d4_0) rfl rfl ?_
    refine XS.iconst X0.here hx rfl (hb hby d4_1) ?_
    refine XS.aloadN X0.here hx rfl (hb hby d4_2) rfl rfl ?_
    refine st1 _ ?_
    refine XS.lloadN X1.here hx rfl (hb hby d4_6) rfl ?_
    refine st2 _ ?_
    refine XS.istore X2.here hx rfl (hb hby d4_10) rfl (l' := #[uR a1, uR a2, uL q3, uS, uI (fb0_3 q3)]) rfl ?_
    refine XS.iload X2.here hx rfl (hb hby d4_12) rfl ?_
    exact k)
  by_cases hc5 : (fb0_3 q3) < (0 : Int32)
  ·  -- pc 14: (fb0_3 q3) < (0 : Int32)
    obtain ⟨fs, hr, hrun, hended, hW, hsame⟩ := X2.leave (v := some (.int ((-(fb0_3 q3)) - (2 : Int32)))) (fun h => by rw [Bd.returns] at h; cases h) Bd.notSynchronized
    refine ⟨_, _, pre4 _ ?_, hrun, hended, _, _, rfl, ?_, ⟨_, rfl⟩, hW, hsame.mono (by decide) (by decide)⟩
    · show Steps p.tables e below (T2.setTop (mkF m 14 #[uR a1, uR a2, uL q3, uS, uI (fb0_3 q3)] [(.int (fb0_3 q3))])) _
      refine XS.ifYes X2.here hx rfl (pc0 := 14) (pc' := 22) rfl (hb hby d4_14) rfl ((if0 _ _).trans (tlt hc5).1) (by decide) (by decide) ?_
      refine XS.iload X2.here hx rfl (hb hby d4_22) rfl ?_
      refine XS.ineg X2.here hx rfl (hb hby d4_24) rfl ?_
      refine XS.iconst X2.here hx rfl (hb hby d4_25) ?_
      refine XS.isub X2.here hx rfl (hb hby d4_26) rfl ?_
      exact retI X2 hx Bd.returns (hb hby d4_27) hr
    · show Qla_3 Z a1 a2 q3 k1 r h0 n0 _ T2.heap _
      rw [e2]
      exact ⟨(by rw [← hrr]; unfold fla_3; rw [if_pos hc5]), N3, rfl⟩
  ·  -- pc 14: not (fb0_3 q3) < (0 : Int32)
    obtain ⟨fs, hr, hrun, hended, hW, hsame⟩ := X2.leave (v := some (.int (fb0_3 q3))) (fun h => by rw [Bd.returns] at h; cases h) Bd.notSynchronized
    refine ⟨_, _, pre4 _ ?_, hrun, hended, _, _, rfl, ?_, ⟨_, rfl⟩, hW, hsame.mono (by decide) (by decide)⟩
    · show Steps p.tables e below (T2.setTop (mkF m 14 #[uR a1, uR a2, uL q3, uS, uI (fb0_3 q3)] [(.int (fb0_3 q3))])) _
      refine XS.ifNo X2.here hx rfl (hb hby d4_14) rfl ((if0 _ _).trans (flt hc5).1) ?_
      refine XS.iload X2.here hx rfl (hb hby d4_17) rfl ?_
      refine XS.goto X2.here hx rfl (pc0 := 19) (pc' := 27) rfl (hb hby d4_19) (by decide) (by decide) ?_
      exact retI X2 hx Bd.returns (hb hby d4_27) hr
    · show Qla_3 Z a1 a2 q3 k1 r h0 n0 _ T2.heap _
      rw [e2]
      exact ⟨(by rw [← hrr]; unfold fla_3; rw [if_neg hc5]), N3, rfl⟩
theorem ef_b0_4 (m : MethodId) (x0 : Addr) (x1 : Int32) (x2 : Int32) (x3 : Int64) : entryFrame m #[(.ref x0), (.int x1), (.int x2), (.long x3)] 10 = mkF m 0 #[.val (.ref x0), .val (.int x1), .val (.int x2), .val (.long x3), .second, .unset, .unset, .unset, .unset, .unset] [] := by first | (simp [entryFrame, mkF, argsToLocals, Value.category]; done) | rfl
def fb0_4 (q4 : Int64) : Int32 := if (20 : Int64) < q4 then (if (30 : Int64) < q4 then (if (40 : Int64) < q4 then (-5 : Int32) else (if q4 < (40 : Int64) then (-4 : Int32) else (3 : Int32))) else (if q4 < (30 : Int64) then (-3 : Int32) else (2 : Int32))) else (if q4 < (20 : Int64) then (if (10 : Int64) < q4 then (-2 : Int32) else (if q4 < (10 : Int64) then (-1 : Int32) else (0 : Int32))) else (1 : Int32))
abbrev R_b0_4 : Room := { frames := 0, cells := 0, slots := 0, locals := 0 }
def Qb0_4 (Z : State) (a1 : Addr) (q4 : Int64) (k1 : ClassId) (h0 : Heap) (n0 : Nat) (v : Option Value) (h : Heap) (L : List Loc) : Prop := v = some (.int (fb0_4 q4)) ∧ Fr n0 L ∧ h = h0
set_option maxRecDepth 65536 in
set_option maxHeartbeats 40000000 in
theorem rmb0_4 (l : Launch) (Z : State) (a0 : Array Value) (hw : ∀ d ∈ tables_1, d.before a0 Z = true) (ws : List Jvm.Cond) (a1 : Addr) (q4 : Int64) (k1 : ClassId) (h0 : Heap) (n0 : Nat) (Z0 : n0 ≤ h0.size) (V_a1 : Arv Z h0 a1 k1 .long (8 : Int32) [(.long 10), (.long 20), (.long 30), (.long 40), (.long 0), (.long 0), (.long 0), (.long 0)] (.long 0)) :
    MetFree l (⟨"java/util/Arrays", "binarySearch0", "([JIIJ)I"⟩ : MethodName) (head1 (Jvm.Cond.code (⟨"java/util/Arrays", "binarySearch0", "([JIIJ)I"⟩ : MethodName) jdk_65_method_56_code 10 (some .int) :: ws) R_b0_4) (fun a U => a = #[(.ref a1), (.int 0), (.int 4), (.long q4)] ∧ Z.Warmed39 U.vm ∧ U.heap = h0) (fun _ _ _ _ _ => True) (fun _ U o U' => ∃ v L, o = .returned v ∧ Qb0_4 Z a1 q4 k1 h0 n0 v U'.heap L ∧ FrameEnd U o U' L R_b0_4.cells R_b0_4.slots) := by
  refine MetFree.of_bodySF (plainFor_of_name pn_22) hisR ?_
  intro p e s m args below meth c s₁ Bd hml0 hP hK
  obtain ⟨rfl, hZ, hh⟩ := hP
  have hx := Bd.exec
  have hby := Bd.bytes
  have hml : c.maxLocals = 10 := hml0
  have hown : s.vm.findClass "java/util/Arrays" = some m.cls := findClass_of_methodNamed Bd.named
  have hnm := (name_of_methodNamed Bd.named Bd.method).1
  have X0 : Stand p l e R_b0_4 s m #[(.ref a1), (.int 0), (.int 4), (.long q4)] below meth c s₁ [] 0 0 := Stand.of_body Bd
  have e0 : s₁.heap = h0 := by rw [← hh, Bd.state]; rfl
  have N0 := Fr.nil n0
  have pre0 : ∀ t, Steps p.tables e below (s₁.setTop (mkF m 0 #[uR a1, uI 0, uI 4, uL q4, uS, uU, uU, uU, uU, uU] [])) t → Steps p.tables e below (s₁.setTop (entryFrame m #[(.ref a1), (.int 0), (.int 4), (.long q4)] 10)) t := fun t k => castTop (ef_b0_4 m a1 (0 : Int32) (4 : Int32) q4) k
  obtain ⟨car1, Aar1, qar1, Sar1, Nar1, Har1, Gar1⟩ := id V_a1
  have hinar1 : ¬ ((1 : Int32) < 0 ∨ car1.slots.size ≤ ((1 : Int32)).toNatClampNeg) := inb_of Sar1 ⟨by decide, by decide⟩
  have hatar1 : car1.slots[((1 : Int32)).toNatClampNeg]? = some (.long 20) := Har1.at hinar1 rfl
  have pre2 : ∀ t, Steps p.tables e below (s₁.setTop (mkF m 34 #[uR a1, uI 0, uI 4, uL q4, uS, uI 0, uI 3, uI 1, uL 20, uS] [(.int (lcmpW (20 : Int64) q4))])) t → Steps p.tables e below (s₁.setTop (entryFrame m #[(.ref a1), (.int 0), (.int 4), (.long q4)] 10)) t := fun t k => pre0 t (by
    show Steps p.tables e below (s₁.setTop (mkF m 0 #[uR a1, uI 0, uI 4, uL q4, uS, uU, uU, uU, uU, uU] [])) _
    refine XS.iloadN X0.here hx rfl (hb hby d7_0) rfl ?_
    refine XS.istore X0.here hx rfl (hb hby d7_1) rfl (l' := #[uR a1, uI 0, uI 4, uL q4, uS, uI 0, uU, uU, uU, uU]) rfl ?_
    refine XS.iloadN X0.here hx rfl (hb hby d7_3) rfl ?_
    refine XS.iconst X0.here hx rfl (hb hby d7_4) ?_
    refine XS.isub X0.here hx rfl (hb hby d7_5) rfl ?_
    refine XS.istore X0.here hx rfl (hb hby d7_6) rfl (l' := #[uR a1, uI 0, uI 4, uL q4, uS, uI 0, uI 3, uU, uU, uU]) rfl ?_
    refine XS.iload X0.here hx rfl (hb hby d7_8) rfl ?_
    refine XS.iload X0.here hx rfl (hb hby d7_10) rfl ?_
    show Steps p.tables e below (s₁.setTop (mkF m 12 #[uR a1, uI 0, uI 4, uL q4, uS, uI 0, uI 3, uU, uU, uU] [(.int 3), (.int 0)])) _
    refine XS.icmpNo X0.here hx rfl (hb hby d7_12) rfl (flt (by decide : ¬ ((3 : Int32) < (0 : Int32)))).2.2.1 ?_
    refine XS.iload X0.here hx rfl (hb hby d7_15) rfl ?_
    refine XS.iload X0.here hx rfl (hb hby d7_17) rfl ?_
    refine XS.iadd X0.here hx rfl (hb hby d7_19) rfl ?_
    refine XS.iconst X0.here hx rfl (hb hby d7_20) ?_
    refine XS.iushr X0.here hx rfl (hb hby d7_21) rfl ?_
    refine XS.istore X0.here hx rfl (hb hby d7_22) rfl (l' := #[uR a1, uI 0, uI 4, uL q4, uS, uI 0, uI 3, uI 1, uU, uU]) rfl ?_
    refine XS.aloadN X0.here hx rfl (hb hby d7_24) rfl rfl ?_
    show Steps p.tables e below (s₁.setTop (mkF m 25 #[uR a1, uI 0, uI 4, uL q4, uS, uI 0, uI 3, uI 1, uU, uU] [(.ref a1)])) _
    refine XS.iload X0.here hx rfl (hb hby d7_25) rfl ?_
    refine X0.laload hx (j := (1 : Int32)) (v := (.long 20)) (by rw [e0]; exact Aar1.1) (State.isArrayOf_alike hZ.alike Aar1.2.1) Aar1.2.2 hinar1 hatar1 (g := (mkF m 27 #[uR a1, uI 0, uI 4, uL q4, uS, uI 0, uI 3, uI 1, uU, uU] [(.int 1), (.ref a1)])) rfl rfl (hb hby d7_27) _ ?_
    refine XS.lstore X0.here hx rfl (hb hby d7_28) rfl (l' := #[uR a1, uI 0, uI 4, uL q4, uS, uI 0, uI 3, uI 1, uL 20, uS]) rfl ?_
    refine XS.lload X0.here hx rfl (hb hby d7_30) rfl ?_
    refine XS.lloadN X0.here hx rfl (hb hby d7_32) rfl ?_
    refine XS.lcmp X0.here hx rfl (hb hby d7_33) rfl ?_
    exact k)
  by_cases hc3 : (20 : Int64) < q4
  ·  -- pc 34: (20 : Int64) < q4
    obtain ⟨car4, Aar4, qar4, Sar4, Nar4, Har4, Gar4⟩ := id V_a1
    have hinar4 : ¬ ((2 : Int32) < 0 ∨ car4.slots.size ≤ ((2 : Int32)).toNatClampNeg) := inb_of Sar4 ⟨by decide, by decide⟩
    have hatar4 : car4.slots[((2 : Int32)).toNatClampNeg]? = some (.long 30) := Har4.at hinar4 rfl
    have pre5 : ∀ t, Steps p.tables e below (s₁.setTop (mkF m 34 #[uR a1, uI 0, uI 4, uL q4, uS, uI 2, uI 3, uI 2, uL 30, uS] [(.int (lcmpW (30 : Int64) q4))])) t → Steps p.tables e below (s₁.setTop (entryFrame m #[(.ref a1), (.int 0), (.int 4), (.long q4)] 10)) t := fun t k => pre2 t (by
      show Steps p.tables e below (s₁.setTop (mkF m 34 #[uR a1, uI 0, uI 4, uL q4, uS, uI 0, uI 3, uI 1, uL 20, uS] [(.int (lcmpW (20 : Int64) q4))])) _
      refine XS.ifNo X0.here hx rfl (hb hby d7_34) rfl ((if0 _ _).trans (tlt ((lw_lt _ _).mpr hc3)).2.1) ?_
      refine XS.iload X0.here hx rfl (hb hby d7_37) rfl ?_
      refine XS.iconst X0.here hx rfl (hb hby d7_39) ?_
      refine XS.iadd X0.here hx rfl (hb hby d7_40) rfl ?_
      refine XS.istore X0.here hx rfl (hb hby d7_41) rfl (l' := #[uR a1, uI 0, uI 4, uL q4, uS, uI 2, uI 3, uI 1, uL 20, uS]) rfl ?_
      refine XS.goto X0.here hx rfl (pc0 := 43) (pc' := 65) rfl (hb hby d7_43) (by decide) (by decide) ?_
      refine XS.goto X0.here hx rfl (pc0 := 65) (pc' := 8) rfl (hb hby d7_65) (by decide) (by decide) ?_
      refine XS.iload X0.here hx rfl (hb hby d7_8) rfl ?_
      refine XS.iload X0.here hx rfl (hb hby d7_10) rfl ?_
      show Steps p.tables e below (s₁.setTop (mkF m 12 #[uR a1, uI 0, uI 4, uL q4, uS, uI 2, uI 3, uI 1, uL 20, uS] [(.int 3), (.int 2)])) _
      refine XS.icmpNo X0.here hx rfl (hb hby d7_12) rfl (flt (by decide : ¬ ((3 : Int32) < (2 : Int32)))).2.2.1 ?_
      show Steps p.tables e below (s₁.setTop (mkF m 15 #[uR a1, uI 0, uI 4, uL q4, uS, uI 2, uI 3, uI 1, uL 20, uS] [])) _
      refine XS.iload X0.here hx rfl (hb hby d7_15) rfl ?_
      refine XS.iload X0.here hx rfl (hb hby d7_17) rfl ?_
      refine XS.iadd X0.here hx rfl (hb hby d7_19) rfl ?_
      refine XS.iconst X0.here hx rfl (hb hby d7_20) ?_
      refine XS.iushr X0.here hx rfl (hb hby d7_21) rfl ?_
      refine XS.istore X0.here hx rfl (hb hby d7_22) rfl (l' := #[uR a1, uI 0, uI 4, uL q4, uS, uI 2, uI 3, uI 2, uL 20, uS]) rfl ?_
      refine XS.aloadN X0.here hx rfl (hb hby d7_24) rfl rfl ?_
      refine XS.iload X0.here hx rfl (hb hby d7_25) rfl ?_
      refine X0.laload hx (j := (2 : Int32)) (v := (.long 30)) (by rw [e0]; exact Aar4.1) (State.isArrayOf_alike hZ.alike Aar4.2.1) Aar4.2.2 hinar4 hatar4 (g := (mkF m 27 #[uR a1, uI 0, uI 4, uL q4, uS, uI 2, uI 3, uI 2, uL 20, uS] [(.int 2), (.ref a1)])) rfl rfl (hb hby d7_27) _ ?_
      refine XS.lstore X0.here hx rfl (hb hby d7_28) rfl (l' := #[uR a1, uI 0, uI 4, uL q4, uS, uI 2, uI 3, uI 2, uL 30, uS]) rfl ?_
      refine XS.lload X0.here hx rfl (hb hby d7_30) rfl ?_
      refine XS.lloadN X0.here hx rfl (hb hby d7_32) rfl ?_
      refine XS.lcmp X0.here hx rfl (hb hby d7_33) rfl ?_
      exact k)
    by_cases hc6 : (30 : Int64) < q4
    ·  -- pc 34: (30 : Int64) < q4
      obtain ⟨car7, Aar7, qar7, Sar7, Nar7, Har7, Gar7⟩ := id V_a1
      have hinar7 : ¬ ((3 : Int32) < 0 ∨ car7.slots.size ≤ ((3 : Int32)).toNatClampNeg) := inb_of Sar7 ⟨by decide, by decide⟩
      have hatar7 : car7.slots[((3 : Int32)).toNatClampNeg]? = some (.long 40) := Har7.at hinar7 rfl
      have pre8 : ∀ t, Steps p.tables e below (s₁.setTop (mkF m 34 #[uR a1, uI 0, uI 4, uL q4, uS, uI 3, uI 3, uI 3, uL 40, uS] [(.int (lcmpW (40 : Int64) q4))])) t → Steps p.tables e below (s₁.setTop (entryFrame m #[(.ref a1), (.int 0), (.int 4), (.long q4)] 10)) t := fun t k => pre5 t (by
        show Steps p.tables e below (s₁.setTop (mkF m 34 #[uR a1, uI 0, uI 4, uL q4, uS, uI 2, uI 3, uI 2, uL 30, uS] [(.int (lcmpW (30 : Int64) q4))])) _
        refine XS.ifNo X0.here hx rfl (hb hby d7_34) rfl ((if0 _ _).trans (tlt ((lw_lt _ _).mpr hc6)).2.1) ?_
        refine XS.iload X0.here hx rfl (hb hby d7_37) rfl ?_
        refine XS.iconst X0.here hx rfl (hb hby d7_39) ?_
        show Steps p.tables e below (s₁.setTop (mkF m 40 #[uR a1, uI 0, uI 4, uL q4, uS, uI 2, uI 3, uI 2, uL 30, uS] [(.int 1), (.int 2)])) _
        refine XS.iadd X0.here hx rfl (hb hby d7_40) rfl ?_
        refine XS.istore X0.here hx rfl (hb hby d7_41) rfl (l' := #[uR a1, uI 0, uI 4, uL q4, uS, uI 3, uI 3, uI 2, uL 30, uS]) rfl ?_
        refine XS.goto X0.here hx rfl (pc0 := 43) (pc' := 65) rfl (hb hby d7_43) (by decide) (by decide) ?_
        refine XS.goto X0.here hx rfl (pc0 := 65) (pc' := 8) rfl (hb hby d7_65) (by decide) (by decide) ?_
        refine XS.iload X0.here hx rfl (hb hby d7_8) rfl ?_
        refine XS.iload X0.here hx rfl (hb hby d7_10) rfl ?_
        show Steps p.tables e below (s₁.setTop (mkF m 12 #[uR a1, uI 0, uI 4, uL q4, uS, uI 3, uI 3, uI 2, uL 30, uS] [(.int 3), (.int 3)])) _
        refine XS.icmpNo X0.here hx rfl (hb hby d7_12) rfl (flt (by decide : ¬ ((3 : Int32) < (3 : Int32)))).2.2.1 ?_
        refine XS.iload X0.here hx rfl (hb hby d7_15) rfl ?_
        refine XS.iload X0.here hx rfl (hb hby d7_17) rfl ?_
        refine XS.iadd X0.here hx rfl (hb hby d7_19) rfl ?_
        refine XS.iconst X0.here hx rfl (hb hby d7_20) ?_
        refine XS.iushr X0.here hx rfl (hb hby d7_21) rfl ?_
        refine XS.istore X0.here hx rfl (hb hby d7_22) rfl (l' := #[uR a1, uI 0, uI 4, uL q4, uS, uI 3, uI 3, uI 3, uL 30, uS]) rfl ?_
        refine XS.aloadN X0.here hx rfl (hb hby d7_24) rfl rfl ?_
        refine XS.iload X0.here hx rfl (hb hby d7_25) rfl ?_
        refine X0.laload hx (j := (3 : Int32)) (v := (.long 40)) (by rw [e0]; exact Aar7.1) (State.isArrayOf_alike hZ.alike Aar7.2.1) Aar7.2.2 hinar7 hatar7 (g := (mkF m 27 #[uR a1, uI 0, uI 4, uL q4, uS, uI 3, uI 3, uI 3, uL 30, uS] [(.int 3), (.ref a1)])) rfl rfl (hb hby d7_27) _ ?_
        show Steps p.tables e below (s₁.setTop (mkF m 28 #[uR a1, uI 0, uI 4, uL q4, uS, uI 3, uI 3, uI 3, uL 30, uS] [(.long 40)])) _
        refine XS.lstore X0.here hx rfl (hb hby d7_28) rfl (l' := #[uR a1, uI 0, uI 4, uL q4, uS, uI 3, uI 3, uI 3, uL 40, uS]) rfl ?_
        refine XS.lload X0.here hx rfl (hb hby d7_30) rfl ?_
        refine XS.lloadN X0.here hx rfl (hb hby d7_32) rfl ?_
        refine XS.lcmp X0.here hx rfl (hb hby d7_33) rfl ?_
        exact k)
      by_cases hc9 : (40 : Int64) < q4
      ·  -- pc 34: (40 : Int64) < q4
        obtain ⟨fs, hr, hrun, hended, hW, hsame⟩ := X0.leave (v := some (.int (-5))) (fun h => by rw [Bd.returns] at h; cases h) Bd.notSynchronized
        refine ⟨_, _, pre8 _ ?_, hrun, hended, _, _, rfl, ?_, ⟨_, rfl⟩, hW, hsame.mono (by decide) (by decide)⟩
        · show Steps p.tables e below (s₁.setTop (mkF m 34 #[uR a1, uI 0, uI 4, uL q4, uS, uI 3, uI 3, uI 3, uL 40, uS] [(.int (lcmpW (40 : Int64) q4))])) _
          refine XS.ifNo X0.here hx rfl (hb hby d7_34) rfl ((if0 _ _).trans (tlt ((lw_lt _ _).mpr hc9)).2.1) ?_
          refine XS.iload X0.here hx rfl (hb hby d7_37) rfl ?_
          refine XS.iconst X0.here hx rfl (hb hby d7_39) ?_
          refine XS.iadd X0.here hx rfl (hb hby d7_40) rfl ?_
          refine XS.istore X0.here hx rfl (hb hby d7_41) rfl (l' := #[uR a1, uI 0, uI 4, uL q4, uS, uI 4, uI 3, uI 3, uL 40, uS]) rfl ?_
          refine XS.goto X0.here hx rfl (pc0 := 43) (pc' := 65) rfl (hb hby d7_43) (by decide) (by decide) ?_
          refine XS.goto X0.here hx rfl (pc0 := 65) (pc' := 8) rfl (hb hby d7_65) (by decide) (by decide) ?_
          refine XS.iload X0.here hx rfl (hb hby d7_8) rfl ?_
          refine XS.iload X0.here hx rfl (hb hby d7_10) rfl ?_
          show Steps p.tables e below (s₁.setTop (mkF m 12 #[uR a1, uI 0, uI 4, uL q4, uS, uI 4, uI 3, uI 3, uL 40, uS] [(.int 3), (.int 4)])) _
          refine XS.icmpYes X0.here hx rfl (pc0 := 12) (pc' := 68) rfl (hb hby d7_12) rfl (tlt (by decide : (3 : Int32) < (4 : Int32))).2.2.1 (by decide) (by decide) ?_
          refine XS.iload X0.here hx rfl (hb hby d7_68) rfl ?_
          refine XS.iconst X0.here hx rfl (hb hby d7_70) ?_
          show Steps p.tables e below (s₁.setTop (mkF m 71 #[uR a1, uI 0, uI 4, uL q4, uS, uI 4, uI 3, uI 3, uL 40, uS] [(.int 1), (.int 4)])) _
          refine XS.iadd X0.here hx rfl (hb hby d7_71) rfl ?_
          refine XS.ineg X0.here hx rfl (hb hby d7_72) rfl ?_
          exact retI X0 hx Bd.returns (hb hby d7_73) hr
        · show Qb0_4 Z a1 q4 k1 h0 n0 _ s₁.heap _
          rw [e0]
          exact ⟨(by unfold fb0_4; rw [if_pos hc3, if_pos hc6, if_pos hc9]), N0, rfl⟩
      ·  -- pc 34: not (40 : Int64) < q4
        have pre10 : ∀ t, Steps p.tables e below (s₁.setTop (mkF m 50 #[uR a1, uI 0, uI 4, uL q4, uS, uI 3, uI 3, uI 3, uL 40, uS] [(.int (lcmpW (40 : Int64) q4))])) t → Steps p.tables e below (s₁.setTop (entryFrame m #[(.ref a1), (.int 0), (.int 4), (.long q4)] 10)) t := fun t k => pre8 t (by
          show Steps p.tables e below (s₁.setTop (mkF m 34 #[uR a1, uI 0, uI 4, uL q4, uS, uI 3, uI 3, uI 3, uL 40, uS] [(.int (lcmpW (40 : Int64) q4))])) _
          refine XS.ifYes X0.here hx rfl (pc0 := 34) (pc' := 46) rfl (hb hby d7_34) rfl ((if0 _ _).trans (flt (mt (lw_lt _ _).mp hc9)).2.1) (by decide) (by decide) ?_
          refine XS.lload X0.here hx rfl (hb hby d7_46) rfl ?_
          refine XS.lloadN X0.here hx rfl (hb hby d7_48) rfl ?_
          refine XS.lcmp X0.here hx rfl (hb hby d7_49) rfl ?_
          exact k)
        by_cases hc11 : q4 < (40 : Int64)
        ·  -- pc 50: q4 < (40 : Int64)
          obtain ⟨fs, hr, hrun, hended, hW, hsame⟩ := X0.leave (v := some (.int (-4))) (fun h => by rw [Bd.returns] at h; cases h) Bd.notSynchronized
          refine ⟨_, _, pre10 _ ?_, hrun, hended, _, _, rfl, ?_, ⟨_, rfl⟩, hW, hsame.mono (by decide) (by decide)⟩
          · show Steps p.tables e below (s₁.setTop (mkF m 50 #[uR a1, uI 0, uI 4, uL q4, uS, uI 3, uI 3, uI 3, uL 40, uS] [(.int (lcmpW (40 : Int64) q4))])) _
            refine XS.ifNo X0.here hx rfl (hb hby d7_50) rfl ((if0 _ _).trans (tlt ((lw_gt _ _).mpr hc11)).2.2.2) ?_
            refine XS.iload X0.here hx rfl (hb hby d7_53) rfl ?_
            refine XS.iconst X0.here hx rfl (hb hby d7_55) ?_
            refine XS.isub X0.here hx rfl (hb hby d7_56) rfl ?_
            refine XS.istore X0.here hx rfl (hb hby d7_57) rfl (l' := #[uR a1, uI 0, uI 4, uL q4, uS, uI 3, uI 2, uI 3, uL 40, uS]) rfl ?_
            refine XS.goto X0.here hx rfl (pc0 := 59) (pc' := 65) rfl (hb hby d7_59) (by decide) (by decide) ?_
            refine XS.goto X0.here hx rfl (pc0 := 65) (pc' := 8) rfl (hb hby d7_65) (by decide) (by decide) ?_
            refine XS.iload X0.here hx rfl (hb hby d7_8) rfl ?_
            show Steps p.tables e below (s₁.setTop (mkF m 10 #[uR a1, uI 0, uI 4, uL q4, uS, uI 3, uI 2, uI 3, uL 40, uS] [(.int 3)])) _
            refine XS.iload X0.here hx rfl (hb hby d7_10) rfl ?_
            show Steps p.tables e below (s₁.setTop (mkF m 12 #[uR a1, uI 0, uI 4, uL q4, uS, uI 3, uI 2, uI 3, uL 40, uS] [(.int 2), (.int 3)])) _
            refine XS.icmpYes X0.here hx rfl (pc0 := 12) (pc' := 68) rfl (hb hby d7_12) rfl (tlt (by decide : (2 : Int32) < (3 : Int32))).2.2.1 (by decide) (by decide) ?_
            refine XS.iload X0.here hx rfl (hb hby d7_68) rfl ?_
            refine XS.iconst X0.here hx rfl (hb hby d7_70) ?_
            refine XS.iadd X0.here hx rfl (hb hby d7_71) rfl ?_
            refine XS.ineg X0.here hx rfl (hb hby d7_72) rfl ?_
            exact retI X0 hx Bd.returns (hb hby d7_73) hr
          · show Qb0_4 Z a1 q4 k1 h0 n0 _ s₁.heap _
            rw [e0]
            exact ⟨(by unfold fb0_4; rw [if_pos hc3, if_pos hc6, if_neg hc9, if_pos hc11]), N0, rfl⟩
        ·  -- pc 50: not q4 < (40 : Int64)
          obtain ⟨fs, hr, hrun, hended, hW, hsame⟩ := X0.leave (v := some (.int 3)) (fun h => by rw [Bd.returns] at h; cases h) Bd.notSynchronized
          refine ⟨_, _, pre10 _ ?_, hrun, hended, _, _, rfl, ?_, ⟨_, rfl⟩, hW, hsame.mono (by decide) (by decide)⟩
          · show Steps p.tables e below (s₁.setTop (mkF m 50 #[uR a1, uI 0, uI 4, uL q4, uS, uI 3, uI 3, uI 3, uL 40, uS] [(.int (lcmpW (40 : Int64) q4))])) _
            refine XS.ifYes X0.here hx rfl (pc0 := 50) (pc' := 62) rfl (hb hby d7_50) rfl ((if0 _ _).trans (flt (mt (lw_gt _ _).mp hc11)).2.2.2) (by decide) (by decide) ?_
            refine XS.iload X0.here hx rfl (hb hby d7_62) rfl ?_
            exact retI X0 hx Bd.returns (hb hby d7_64) hr
          · show Qb0_4 Z a1 q4 k1 h0 n0 _ s₁.heap _
            rw [e0]
            exact ⟨(by unfold fb0_4; rw [if_pos hc3, if_pos hc6, if_neg hc9, if_neg hc11]), N0, rfl⟩
    ·  -- pc 34: not (30 : Int64) < q4
      have pre12 : ∀ t, Steps p.tables e below (s₁.setTop (mkF m 50 #[uR a1, uI 0, uI 4, uL q4, uS, uI 2, uI 3, uI 2, uL 30, uS] [(.int (lcmpW (30 : Int64) q4))])) t → Steps p.tables e below (s₁.setTop (entryFrame m #[(.ref a1), (.int 0), (.int 4), (.long q4)] 10)) t := fun t k => pre5 t (by
        show Steps p.tables e below (s₁.setTop (mkF m 34 #[uR a1, uI 0, uI 4, uL q4, uS, uI 2, uI 3, uI 2, uL 30, uS] [(.int (lcmpW (30 : Int64) q4))])) _
        refine XS.ifYes X0.here hx rfl (pc0 := 34) (pc' := 46) rfl (hb hby d7_34) rfl ((if0 _ _).trans (flt (mt (lw_lt _ _).mp hc6)).2.1) (by decide) (by decide) ?_
        refine XS.lload X0.here hx rfl (hb hby d7_46) rfl ?_
        refine XS.lloadN X0.here hx rfl (hb hby d7_48) rfl ?_
        show Steps p.tables e below (s₁.setTop (mkF m 49 #[uR a1, uI 0, uI 4, uL q4, uS, uI 2, uI 3, uI 2, uL 30, uS] [(.long q4), (.long 30)])) _
        refine XS.lcmp X0.here hx rfl (hb hby d7_49) rfl ?_
        exact k)
      by_cases hc13 : q4 < (30 : Int64)
      ·  -- pc 50: q4 < (30 : Int64)
        obtain ⟨fs, hr, hrun, hended, hW, hsame⟩ := X0.leave (v := some (.int (-3))) (fun h => by rw [Bd.returns] at h; cases h) Bd.notSynchronized
        refine ⟨_, _, pre12 _ ?_, hrun, hended, _, _, rfl, ?_, ⟨_, rfl⟩, hW, hsame.mono (by decide) (by decide)⟩
        · show Steps p.tables e below (s₁.setTop (mkF m 50 #[uR a1, uI 0, uI 4, uL q4, uS, uI 2, uI 3, uI 2, uL 30, uS] [(.int (lcmpW (30 : Int64) q4))])) _
          refine XS.ifNo X0.here hx rfl (hb hby d7_50) rfl ((if0 _ _).trans (tlt ((lw_gt _ _).mpr hc13)).2.2.2) ?_
          refine XS.iload X0.here hx rfl (hb hby d7_53) rfl ?_
          refine XS.iconst X0.here hx rfl (hb hby d7_55) ?_
          refine XS.isub X0.here hx rfl (hb hby d7_56) rfl ?_
          refine XS.istore X0.here hx rfl (hb hby d7_57) rfl (l' := #[uR a1, uI 0, uI 4, uL q4, uS, uI 2, uI 1, uI 2, uL 30, uS]) rfl ?_
          refine XS.goto X0.here hx rfl (pc0 := 59) (pc' := 65) rfl (hb hby d7_59) (by decide) (by decide) ?_
          refine XS.goto X0.here hx rfl (pc0 := 65) (pc' := 8) rfl (hb hby d7_65) (by decide) (by decide) ?_
          refine XS.iload X0.here hx rfl (hb hby d7_8) rfl ?_
          refine XS.iload X0.here hx rfl (hb hby d7_10) rfl ?_
          show Steps p.tables e below (s₁.setTop (mkF m 12 #[uR a1, uI 0, uI 4, uL q4, uS, uI 2, uI 1, uI 2, uL 30, uS] [(.int 1), (.int 2)])) _
          refine XS.icmpYes X0.here hx rfl (pc0 := 12) (pc' := 68) rfl (hb hby d7_12) rfl (tlt (by decide : (1 : Int32) < (2 : Int32))).2.2.1 (by decide) (by decide) ?_
          refine XS.iload X0.here hx rfl (hb hby d7_68) rfl ?_
          refine XS.iconst X0.here hx rfl (hb hby d7_70) ?_
          refine XS.iadd X0.here hx rfl (hb hby d7_71) rfl ?_
          refine XS.ineg X0.here hx rfl (hb hby d7_72) rfl ?_
          exact retI X0 hx Bd.returns (hb hby d7_73) hr
        · show Qb0_4 Z a1 q4 k1 h0 n0 _ s₁.heap _
          rw [e0]
          exact ⟨(by unfold fb0_4; rw [if_pos hc3, if_neg hc6, if_pos hc13]), N0, rfl⟩
      ·  -- pc 50: not q4 < (30 : Int64)
        obtain ⟨fs, hr, hrun, hended, hW, hsame⟩ := X0.leave (v := some (.int 2)) (fun h => by rw [Bd.returns] at h; cases h) Bd.notSynchronized
        refine ⟨_, _, pre12 _ ?_, hrun, hended, _, _, rfl, ?_, ⟨_, rfl⟩, hW, hsame.mono (by decide) (by decide)⟩
        · show Steps p.tables e below (s₁.setTop (mkF m 50 #[uR a1, uI 0, uI 4, uL q4, uS, uI 2, uI 3, uI 2, uL 30, uS] [(.int (lcmpW (30 : Int64) q4))])) _
          refine XS.ifYes X0.here hx rfl (pc0 := 50) (pc' := 62) rfl (hb hby d7_50) rfl ((if0 _ _).trans (flt (mt (lw_gt _ _).mp hc13)).2.2.2) (by decide) (by decide) ?_
          refine XS.iload X0.here hx rfl (hb hby d7_62) rfl ?_
          exact retI X0 hx Bd.returns (hb hby d7_64) hr
        · show Qb0_4 Z a1 q4 k1 h0 n0 _ s₁.heap _
          rw [e0]
          exact ⟨(by unfold fb0_4; rw [if_pos hc3, if_neg hc6, if_neg hc13]), N0, rfl⟩
  ·  -- pc 34: not (20 : Int64) < q4
    have pre14 : ∀ t, Steps p.tables e below (s₁.setTop (mkF m 50 #[uR a1, uI 0, uI 4, uL q4, uS, uI 0, uI 3, uI 1, uL 20, uS] [(.int (lcmpW (20 : Int64) q4))])) t → Steps p.tables e below (s₁.setTop (entryFrame m #[(.ref a1), (.int 0), (.int 4), (.long q4)] 10)) t := fun t k => pre2 t (by
      show Steps p.tables e below (s₁.setTop (mkF m 34 #[uR a1, uI 0, uI 4, uL q4, uS, uI 0, uI 3, uI 1, uL 20, uS] [(.int (lcmpW (20 : Int64) q4))])) _
      refine XS.ifYes X0.here hx rfl (pc0 := 34) (pc' := 46) rfl (hb hby d7_34) rfl ((if0 _ _).trans (flt (mt (lw_lt _ _).mp hc3)).2.1) (by decide) (by decide) ?_
      refine XS.lload X0.here hx rfl (hb hby d7_46) rfl ?_
      refine XS.lloadN X0.here hx rfl (hb hby d7_48) rfl ?_
      refine XS.lcmp X0.here hx rfl (hb hby d7_49) rfl ?_
      exact k)
    by_cases hc15 : q4 < (20 : Int64)
    ·  -- pc 50: q4 < (20 : Int64)
      obtain ⟨car16, Aar16, qar16, Sar16, Nar16, Har16, Gar16⟩ := id V_a1
      have hinar16 : ¬ ((0 : Int32) < 0 ∨ car16.slots.size ≤ ((0 : Int32)).toNatClampNeg) := inb_of Sar16 ⟨by decide, by decide⟩
      have hatar16 : car16.slots[((0 : Int32)).toNatClampNeg]? = some (.long 10) := Har16.at hinar16 rfl
      have pre17 : ∀ t, Steps p.tables e below (s₁.setTop (mkF m 34 #[uR a1, uI 0, uI 4, uL q4, uS, uI 0, uI 0, uI 0, uL 10, uS] [(.int (lcmpW (10 : Int64) q4))])) t → Steps p.tables e below (s₁.setTop (entryFrame m #[(.ref a1), (.int 0), (.int 4), (.long q4)] 10)) t := fun t k => pre14 t (by
        show Steps p.tables e below (s₁.setTop (mkF m 50 #[uR a1, uI 0, uI 4, uL q4, uS, uI 0, uI 3, uI 1, uL 20, uS] [(.int (lcmpW (20 : Int64) q4))])) _
        refine XS.ifNo X0.here hx rfl (hb hby d7_50) rfl ((if0 _ _).trans (tlt ((lw_gt _ _).mpr hc15)).2.2.2) ?_
        refine XS.iload X0.here hx rfl (hb hby d7_53) rfl ?_
        refine XS.iconst X0.here hx rfl (hb hby d7_55) ?_
        refine XS.isub X0.here hx rfl (hb hby d7_56) rfl ?_
        refine XS.istore X0.here hx rfl (hb hby d7_57) rfl (l' := #[uR a1, uI 0, uI 4, uL q4, uS, uI 0, uI 0, uI 1, uL 20, uS]) rfl ?_
        refine XS.goto X0.here hx rfl (pc0 := 59) (pc' := 65) rfl (hb hby d7_59) (by decide) (by decide) ?_
        show Steps p.tables e below (s₁.setTop (mkF m 65 #[uR a1, uI 0, uI 4, uL q4, uS, uI 0, uI 0, uI 1, uL 20, uS] [])) _
        refine XS.goto X0.here hx rfl (pc0 := 65) (pc' := 8) rfl (hb hby d7_65) (by decide) (by decide) ?_
        refine XS.iload X0.here hx rfl (hb hby d7_8) rfl ?_
        refine XS.iload X0.here hx rfl (hb hby d7_10) rfl ?_
        show Steps p.tables e below (s₁.setTop (mkF m 12 #[uR a1, uI 0, uI 4, uL q4, uS, uI 0, uI 0, uI 1, uL 20, uS] [(.int 0), (.int 0)])) _
        refine XS.icmpNo X0.here hx rfl (hb hby d7_12) rfl (flt (by decide : ¬ ((0 : Int32) < (0 : Int32)))).2.2.1 ?_
        refine XS.iload X0.here hx rfl (hb hby d7_15) rfl ?_
        refine XS.iload X0.here hx rfl (hb hby d7_17) rfl ?_
        refine XS.iadd X0.here hx rfl (hb hby d7_19) rfl ?_
        refine XS.iconst X0.here hx rfl (hb hby d7_20) ?_
        refine XS.iushr X0.here hx rfl (hb hby d7_21) rfl ?_
        refine XS.istore X0.here hx rfl (hb hby d7_22) rfl (l' := #[uR a1, uI 0, uI 4, uL q4, uS, uI 0, uI 0, uI 0, uL 20, uS]) rfl ?_
        refine XS.aloadN X0.here hx rfl (hb hby d7_24) rfl rfl ?_
        refine XS.iload X0.here hx rfl (hb hby d7_25) rfl ?_
        refine X0.laload hx (j := (0 : Int32)) (v := (.long 10)) (by rw [e0]; exact Aar16.1) (State.isArrayOf_alike hZ.alike Aar16.2.1) Aar16.2.2 hinar16 hatar16 (g := (mkF m 27 #[uR a1, uI 0, uI 4, uL q4, uS, uI 0, uI 0, uI 0, uL 20, uS] [(.int 0), (.ref a1)])) rfl rfl (hb hby d7_27) _ ?_
        refine XS.lstore X0.here hx rfl (hb hby d7_28) rfl (l' := #[uR a1, uI 0, uI 4, uL q4, uS, uI 0, uI 0, uI 0, uL 10, uS]) rfl ?_
        refine XS.lload X0.here hx rfl (hb hby d7_30) rfl ?_
        refine XS.lloadN X0.here hx rfl (hb hby d7_32) rfl ?_
        show Steps p.tables e below (s₁.setTop (mkF m 33 #[uR a1, uI 0, uI 4, uL q4, uS, uI 0, uI 0, uI 0, uL 10, uS] [(.long q4), (.long 10)])) _
        refine XS.lcmp X0.here hx rfl (hb hby d7_33) rfl ?_
        exact k)
      by_cases hc18 : (10 : Int64) < q4
      ·  -- pc 34: (10 : Int64) < q4
        obtain ⟨fs, hr, hrun, hended, hW, hsame⟩ := X0.leave (v := some (.int (-2))) (fun h => by rw [Bd.returns] at h; cases h) Bd.notSynchronized
        refine ⟨_, _, pre17 _ ?_, hrun, hended, _, _, rfl, ?_, ⟨_, rfl⟩, hW, hsame.mono (by decide) (by decide)⟩
        · show Steps p.tables e below (s₁.setTop (mkF m 34 #[uR a1, uI 0, uI 4, uL q4, uS, uI 0, uI 0, uI 0, uL 10, uS] [(.int (lcmpW (10 : Int64) q4))])) _
          refine XS.ifNo X0.here hx rfl (hb hby d7_34) rfl ((if0 _ _).trans (tlt ((lw_lt _ _).mpr hc18)).2.1) ?_
          refine XS.iload X0.here hx rfl (hb hby d7_37) rfl ?_
          refine XS.iconst X0.here hx rfl (hb hby d7_39) ?_
          refine XS.iadd X0.here hx rfl (hb hby d7_40) rfl ?_
          refine XS.istore X0.here hx rfl (hb hby d7_41) rfl (l' := #[uR a1, uI 0, uI 4, uL q4, uS, uI 1, uI 0, uI 0, uL 10, uS]) rfl ?_
          refine XS.goto X0.here hx rfl (pc0 := 43) (pc' := 65) rfl (hb hby d7_43) (by decide) (by decide) ?_
          refine XS.goto X0.here hx rfl (pc0 := 65) (pc' := 8) rfl (hb hby d7_65) (by decide) (by decide) ?_
          refine XS.iload X0.here hx rfl (hb hby d7_8) rfl ?_
          refine XS.iload X0.here hx rfl (hb hby d7_10) rfl ?_
          show Steps p.tables e below (s₁.setTop (mkF m 12 #[uR a1, uI 0, uI 4, uL q4, uS, uI 1, uI 0, uI 0, uL 10, uS] [(.int 0), (.int 1)])) _
          refine XS.icmpYes X0.here hx rfl (pc0 := 12) (pc' := 68) rfl (hb hby d7_12) rfl (tlt (by decide : (0 : Int32) < (1 : Int32))).2.2.1 (by decide) (by decide) ?_
          refine XS.iload X0.here hx rfl (hb hby d7_68) rfl ?_
          refine XS.iconst X0.here hx rfl (hb hby d7_70) ?_
          refine XS.iadd X0.here hx rfl (hb hby d7_71) rfl ?_
          refine XS.ineg X0.here hx rfl (hb hby d7_72) rfl ?_
          exact retI X0 hx Bd.returns (hb hby d7_73) hr
        · show Qb0_4 Z a1 q4 k1 h0 n0 _ s₁.heap _
          rw [e0]
          exact ⟨(by unfold fb0_4; rw [if_neg hc3, if_pos hc15, if_pos hc18]), N0, rfl⟩
      ·  -- pc 34: not (10 : Int64) < q4
        have pre19 : ∀ t, Steps p.tables e below (s₁.setTop (mkF m 50 #[uR a1, uI 0, uI 4, uL q4, uS, uI 0, uI 0, uI 0, uL 10, uS] [(.int (lcmpW (10 : Int64) q4))])) t → Steps p.tables e below (s₁.setTop (entryFrame m #[(.ref a1), (.int 0), (.int 4), (.long q4)] 10)) t := fun t k => pre17 t (by
          show Steps p.tables e below (s₁.setTop (mkF m 34 #[uR a1, uI 0, uI 4, uL q4, uS, uI 0, uI 0, uI 0, uL 10, uS] [(.int (lcmpW (10 : Int64) q4))])) _
          refine XS.ifYes X0.here hx rfl (pc0 := 34) (pc' := 46) rfl (hb hby d7_34) rfl ((if0 _ _).trans (flt (mt (lw_lt _ _).mp hc18)).2.1) (by decide) (by decide) ?_
          refine XS.lload X0.here hx rfl (hb hby d7_46) rfl ?_
          refine XS.lloadN X0.here hx rfl (hb hby d7_48) rfl ?_
          refine XS.lcmp X0.here hx rfl (hb hby d7_49) rfl ?_
          exact k)
        by_cases hc20 : q4 < (10 : Int64)
        ·  -- pc 50: q4 < (10 : Int64)
          obtain ⟨fs, hr, hrun, hended, hW, hsame⟩ := X0.leave (v := some (.int (-1))) (fun h => by rw [Bd.returns] at h; cases h) Bd.notSynchronized
          refine ⟨_, _, pre19 _ ?_, hrun, hended, _, _, rfl, ?_, ⟨_, rfl⟩, hW, hsame.mono (by decide) (by decide)⟩
          · show Steps p.tables e below (s₁.setTop (mkF m 50 #[uR a1, uI 0, uI 4, uL q4, uS, uI 0, uI 0, uI 0, uL 10, uS] [(.int (lcmpW (10 : Int64) q4))])) _
            refine XS.ifNo X0.here hx rfl (hb hby d7_50) rfl ((if0 _ _).trans (tlt ((lw_gt _ _).mpr hc20)).2.2.2) ?_
            refine XS.iload X0.here hx rfl (hb hby d7_53) rfl ?_
            refine XS.iconst X0.here hx rfl (hb hby d7_55) ?_
            refine XS.isub X0.here hx rfl (hb hby d7_56) rfl ?_
            refine XS.istore X0.here hx rfl (hb hby d7_57) rfl (l' := #[uR a1, uI 0, uI 4, uL q4, uS, uI 0, uI (-1 : Int32), uI 0, uL 10, uS]) rfl ?_
            refine XS.goto X0.here hx rfl (pc0 := 59) (pc' := 65) rfl (hb hby d7_59) (by decide) (by decide) ?_
            refine XS.goto X0.here hx rfl (pc0 := 65) (pc' := 8) rfl (hb hby d7_65) (by decide) (by decide) ?_
            refine XS.iload X0.here hx rfl (hb hby d7_8) rfl ?_
            refine XS.iload X0.here hx rfl (hb hby d7_10) rfl ?_
            show Steps p.tables e below (s₁.setTop (mkF m 12 #[uR a1, uI 0, uI 4, uL q4, uS, uI 0, uI (-1 : Int32), uI 0, uL 10, uS] [(.int (-1)), (.int 0)])) _
            refine XS.icmpYes X0.here hx rfl (pc0 := 12) (pc' := 68) rfl (hb hby d7_12) rfl (tlt (by decide : (-1 : Int32) < (0 : Int32))).2.2.1 (by decide) (by decide) ?_
            refine XS.iload X0.here hx rfl (hb hby d7_68) rfl ?_
            show Steps p.tables e below (s₁.setTop (mkF m 70 #[uR a1, uI 0, uI 4, uL q4, uS, uI 0, uI (-1 : Int32), uI 0, uL 10, uS] [(.int 0)])) _
            refine XS.iconst X0.here hx rfl (hb hby d7_70) ?_
            refine XS.iadd X0.here hx rfl (hb hby d7_71) rfl ?_
            refine XS.ineg X0.here hx rfl (hb hby d7_72) rfl ?_
            exact retI X0 hx Bd.returns (hb hby d7_73) hr
          · show Qb0_4 Z a1 q4 k1 h0 n0 _ s₁.heap _
            rw [e0]
            exact ⟨(by unfold fb0_4; rw [if_neg hc3, if_pos hc15, if_neg hc18, if_pos hc20]), N0, rfl⟩
        ·  -- pc 50: not q4 < (10 : Int64)
          obtain ⟨fs, hr, hrun, hended, hW, hsame⟩ := X0.leave (v := some (.int 0)) (fun h => by rw [Bd.returns] at h; cases h) Bd.notSynchronized
          refine ⟨_, _, pre19 _ ?_, hrun, hended, _, _, rfl, ?_, ⟨_, rfl⟩, hW, hsame.mono (by decide) (by decide)⟩
          · show Steps p.tables e below (s₁.setTop (mkF m 50 #[uR a1, uI 0, uI 4, uL q4, uS, uI 0, uI 0, uI 0, uL 10, uS] [(.int (lcmpW (10 : Int64) q4))])) _
            refine XS.ifYes X0.here hx rfl (pc0 := 50) (pc' := 62) rfl (hb hby d7_50) rfl ((if0 _ _).trans (flt (mt (lw_gt _ _).mp hc20)).2.2.2) (by decide) (by decide) ?_
            refine XS.iload X0.here hx rfl (hb hby d7_62) rfl ?_
            exact retI X0 hx Bd.returns (hb hby d7_64) hr
          · show Qb0_4 Z a1 q4 k1 h0 n0 _ s₁.heap _
            rw [e0]
            exact ⟨(by unfold fb0_4; rw [if_neg hc3, if_pos hc15, if_neg hc18, if_neg hc20]), N0, rfl⟩
    ·  -- pc 50: not q4 < (20 : Int64)
      obtain ⟨fs, hr, hrun, hended, hW, hsame⟩ := X0.leave (v := some (.int 1)) (fun h => by rw [Bd.returns] at h; cases h) Bd.notSynchronized
      refine ⟨_, _, pre14 _ ?_, hrun, hended, _, _, rfl, ?_, ⟨_, rfl⟩, hW, hsame.mono (by decide) (by decide)⟩
      · show Steps p.tables e below (s₁.setTop (mkF m 50 #[uR a1, uI 0, uI 4, uL q4, uS, uI 0, uI 3, uI 1, uL 20, uS] [(.int (lcmpW (20 : Int64) q4))])) _
        refine XS.ifYes X0.here hx rfl (pc0 := 50) (pc' := 62) rfl (hb hby d7_50) rfl ((if0 _ _).trans (flt (mt (lw_gt _ _).mp hc15)).2.2.2) (by decide) (by decide) ?_
        refine XS.iload X0.here hx rfl (hb hby d7_62) rfl ?_
        exact retI X0 hx Bd.returns (hb hby d7_64) hr
      · show Qb0_4 Z a1 q4 k1 h0 n0 _ s₁.heap _
        rw [e0]
        exact ⟨(by unfold fb0_4; rw [if_neg hc3, if_neg hc15]), N0, rfl⟩
theorem ef_bs_4 (m : MethodId) (x0 : Addr) (x1 : Int32) (x2 : Int32) (x3 : Int64) : entryFrame m #[(.ref x0), (.int x1), (.int x2), (.long x3)] 5 = mkF m 0 #[.val (.ref x0), .val (.int x1), .val (.int x2), .val (.long x3), .second] [] := by first | (simp [entryFrame, mkF, argsToLocals, Value.category]; done) | rfl
abbrev R_bs_4 : Room := { frames := 1, cells := 0, slots := 0, locals := 21 }
def Qbs_4 (Z : State) (a1 : Addr) (q4 : Int64) (k1 : ClassId) (h0 : Heap) (n0 : Nat) (v : Option Value) (h : Heap) (L : List Loc) : Prop := v = some (.int (fb0_4 q4)) ∧ Fr n0 L ∧ h = h0
set_option maxRecDepth 65536 in
set_option maxHeartbeats 40000000 in
theorem rmbs_4 (l : Launch) (Z : State) (a0 : Array Value) (hw : ∀ d ∈ tables_1, d.before a0 Z = true) (ws : List Jvm.Cond) (a1 : Addr) (q4 : Int64) (k1 : ClassId) (h0 : Heap) (n0 : Nat) (Z0 : n0 ≤ h0.size) (V_a1 : Arv Z h0 a1 k1 .long (8 : Int32) [(.long 10), (.long 20), (.long 30), (.long 40), (.long 0), (.long 0), (.long 0), (.long 0)] (.long 0)) :
    MetFree l (⟨"java/util/Arrays", "binarySearch", "([JIIJ)I"⟩ : MethodName) (head1 (Jvm.Cond.code (⟨"java/util/Arrays", "binarySearch", "([JIIJ)I"⟩ : MethodName) jdk_65_method_55_code 5 (some .int) :: ws) R_bs_4) (fun a U => a = #[(.ref a1), (.int 0), (.int 4), (.long q4)] ∧ Z.Warmed39 U.vm ∧ U.heap = h0) (fun _ _ _ _ _ => True) (fun _ U o U' => ∃ v L, o = .returned v ∧ Qbs_4 Z a1 q4 k1 h0 n0 v U'.heap L ∧ FrameEnd U o U' L R_bs_4.cells R_bs_4.slots) := by
  refine MetFree.of_bodySF (plainFor_of_name pn_22) hisR ?_
  intro p e s m args below meth c s₁ Bd hml0 hP hK
  obtain ⟨rfl, hZ, hh⟩ := hP
  have hx := Bd.exec
  have hby := Bd.bytes
  have hml : c.maxLocals = 5 := hml0
  have hown : s.vm.findClass "java/util/Arrays" = some m.cls := findClass_of_methodNamed Bd.named
  have hnm := (name_of_methodNamed Bd.named Bd.method).1
  have X0 : Stand p l e R_bs_4 s m #[(.ref a1), (.int 0), (.int 4), (.long q4)] below meth c s₁ [] 0 0 := Stand.of_body Bd
  have e0 : s₁.heap = h0 := by rw [← hh, Bd.state]; rfl
  have N0 := Fr.nil n0
  have pre0 : ∀ t, Steps p.tables e below (s₁.setTop (mkF m 0 #[uR a1, uI 0, uI 4, uL q4, uS] [])) t → Steps p.tables e below (s₁.setTop (entryFrame m #[(.ref a1), (.int 0), (.int 4), (.long q4)] 5)) t := fun t k => castTop (ef_bs_4 m a1 (0 : Int32) (4 : Int32) q4) k
  obtain ⟨car1, Aar1, qar1, Sar1, Nar1, Har1, Gar1⟩ := id V_a1
  -- pc 4: Arrays.rangeCheck by rmrc
  obtain ⟨_, _, ⟨T2, L2, ck2, cn2⟩, -, X2, ⟨Lc2, hQ2, l2, y2, z2⟩, st2⟩ := Jvm.LawKit.callS X0 hx (y := (⟨"java/util/Arrays", "rangeCheck", "(III)V"⟩ : MethodName)) hown (mvT hZ (own_w hw (i := 33) rfl)) (mvT hZ (own_w hw (i := 34) rfl)) (mvT hZ (own_w hw (i := 31) rfl)) (mvT hZ (own_w hw (i := 35) rfl)) (by decide) (backOf (W := 0) (rmrc l Z a0 hw [] (8 : Int32) (0 : Int32) (4 : Int32) h0 n0 Z0 (by decide) (by decide) (by decide)) hZ (own_w hw (i := 35) rfl) (own_w hw (i := 31) rfl) (by decide) (by decide)) (g := (mkF m 4 #[uR a1, uI 0, uI 4, uL q4, uS] [(.int 4), (.int 0), (.int 8)])) rfl (by rw [hml]; rfl) (argsL := [(.int 8), (.int 0), (.int 4)]) (rest := []) (lenOf pd_177 rfl) rfl (by show 2 * 0 + _ ≤ _; exact Nat.le_of_eq rfl) (hb hby d5_4) (fun _ _ => ⟨rfl, e0, (by decide : 0 + 0 ≤ _), (by decide : 0 + 0 ≤ _)⟩)
  dsimp only [Pt.U, Pt.locs, Pt.cells, Pt.slots] at X2 l2 y2 z2 st2 hQ2
  subst y2 z2
  obtain ⟨rfl, N2q, e2⟩ := hQ2
  have N3 : Fr n0 L2 := by rw [l2]; exact Fr.app N0 N2q
  -- pc 11: Arrays.binarySearch0 by rmb0_4
  obtain ⟨_, _, ⟨T4, L4, ck4, cn4⟩, -, X4, ⟨Lc4, hQ4, l4, y4, z4⟩, st4⟩ := Jvm.LawKit.callS X2 hx (y := (⟨"java/util/Arrays", "binarySearch0", "([JIIJ)I"⟩ : MethodName)) hown (mvT hZ (own_w hw (i := 36) rfl)) (mvT hZ (own_w hw (i := 37) rfl)) (mvT hZ (own_w hw (i := 31) rfl)) (mvT hZ (own_w hw (i := 38) rfl)) (by decide) (backOf (W := 0) (rmb0_4 l Z a0 hw [] a1 q4 k1 h0 n0 Z0 V_a1) hZ (own_w hw (i := 38) rfl) (own_w hw (i := 31) rfl) (by decide) (by decide)) (g := (mkF m 11 #[uR a1, uI 0, uI 4, uL q4, uS] [(.long q4), (.int 4), (.int 0), (.ref a1)])) rfl (by rw [hml]; rfl) (argsL := [(.ref a1), (.int 0), (.int 4), (.long q4)]) (rest := []) (lenOf pd_183 rfl) rfl (by show 2 * 0 + _ ≤ _; exact Nat.le_of_eq rfl) (hb hby d5_11) (fun _ _ => ⟨rfl, e2, (by decide : 0 + 0 ≤ _), (by decide : 0 + 0 ≤ _)⟩)
  dsimp only [Pt.U, Pt.locs, Pt.cells, Pt.slots] at X4 l4 y4 z4 st4 hQ4
  subst y4 z4
  obtain ⟨rfl, N4q, e4⟩ := hQ4
  have N5 : Fr n0 L4 := by rw [l4]; exact Fr.app N3 N4q
  obtain ⟨fs, hr, hrun, hended, hW, hsame⟩ := X4.leave (v := some (.int (fb0_4 q4))) (fun h => by rw [Bd.returns] at h; cases h) Bd.notSynchronized
  refine ⟨_, _, pre0 _ ?_, hrun, hended, _, _, rfl, ?_, ⟨_, rfl⟩, hW, hsame.mono (by decide) (by decide)⟩
  · show Steps p.tables e below (s₁.setTop (mkF m 0 #[uR a1, uI 0, uI 4, uL q4, uS] [])) _
    refine XS.aloadN X0.here hx rfl (hb hby d5_0) rfl rfl ?_
    refine X0.arraylength hx (by rw [e0]; exact Aar1.1) (State.isArrayOf_alike hZ.alike Aar1.2.1) (g := (mkF m 1 #[uR a1, uI 0, uI 4, uL q4, uS] [(.ref a1)])) rfl rfl (hb hby d5_1) _ ?_
    rw [len_of Sar1 Nar1]
    refine XS.iloadN X0.here hx rfl (hb hby d5_2) rfl ?_
    refine XS.iloadN X0.here hx rfl (hb hby d5_3) rfl ?_
    refine st2 _ ?_
    refine XS.aloadN X2.here hx rfl (hb hby d5_7) rfl rfl ?_
    refine XS.iloadN X2.here hx rfl (hb hby d5_8) rfl ?_
    refine XS.iloadN X2.here hx rfl (hb hby d5_9) rfl ?_
    refine XS.lloadN X2.here hx rfl (hb hby d5_10) rfl ?_
    refine st4 _ ?_
    exact retI X4 hx Bd.returns (hb hby d5_14) hr
  · show Qbs_4 Z a1 q4 k1 h0 n0 _ T4.heap _
    rw [e4]
    exact ⟨rfl, N5, rfl⟩
theorem ef_la_4 (m : MethodId) (x0 : Addr) (x1 : Addr) (x2 : Int64) : entryFrame m #[(.ref x0), (.ref x1), (.long x2)] 5 = mkF m 0 #[.val (.ref x0), .val (.ref x1), .val (.long x2), .second, .unset] [] := by first | (simp [entryFrame, mkF, argsToLocals, Value.category]; done) | rfl
def fla_4 (q3 : Int64) : Int32 := if (fb0_4 q3) < (0 : Int32) then ((-(fb0_4 q3)) - (2 : Int32)) else (fb0_4 q3)
abbrev R_la_4 : Room := { frames := 2, cells := 0, slots := 0, locals := 37 }
def Qla_4 (Z : State) (a1 : Addr) (a2 : Addr) (q3 : Int64) (k1 : ClassId) (r : Int32) (h0 : Heap) (n0 : Nat) (v : Option Value) (h : Heap) (L : List Loc) : Prop := v = some (.int r) ∧ Fr n0 L ∧ h = h0
set_option maxRecDepth 65536 in
set_option maxHeartbeats 40000000 in
theorem rmla_4 (l : Launch) (Z : State) (a0 : Array Value) (hw : ∀ d ∈ tables_1, d.before a0 Z = true) (ws : List Jvm.Cond) (a1 : Addr) (a2 : Addr) (q3 : Int64) (k1 : ClassId) (r : Int32) (h0 : Heap) (n0 : Nat) (Z0 : n0 ≤ h0.size) (F_count_a1 : Fld Z h0 a1 KC "count" "I" (.int 4)) (V_a2 : Arv Z h0 a2 k1 .long (8 : Int32) [(.long 10), (.long 20), (.long 30), (.long 40), (.long 0), (.long 0), (.long 0), (.long 0)] (.long 0)) (hrr : (fla_4 q3) = r) :
    MetFree l (⟨KC, "lastAtOrBefore", "([JJ)I"⟩ : MethodName) (head1 (Jvm.Cond.code (⟨KC, "lastAtOrBefore", "([JJ)I"⟩ : MethodName) prog_126_method_14_code 5 (some .int) :: ws) R_la_4) (fun a U => a = #[(.ref a1), (.ref a2), (.long q3)] ∧ Z.Warmed39 U.vm ∧ U.heap = h0) (fun _ _ _ _ _ => True) (fun _ U o U' => ∃ v L, o = .returned v ∧ Qla_4 Z a1 a2 q3 k1 r h0 n0 v U'.heap L ∧ FrameEnd U o U' L R_la_4.cells R_la_4.slots) := by
  refine MetFree.of_bodySF (plainFor_of_name pn_55) hisR ?_
  intro p e s m args below meth c s₁ Bd hml0 hP hK
  obtain ⟨rfl, hZ, hh⟩ := hP
  have hx := Bd.exec
  have hby := Bd.bytes
  have hml : c.maxLocals = 5 := hml0
  have hown : s.vm.findClass KC = some m.cls := findClass_of_methodNamed Bd.named
  have hnm := (name_of_methodNamed Bd.named Bd.method).1
  have X0 : Stand p l e R_la_4 s m #[(.ref a1), (.ref a2), (.long q3)] below meth c s₁ [] 0 0 := Stand.of_body Bd
  have e0 : s₁.heap = h0 := by rw [← hh, Bd.state]; rfl
  have N0 := Fr.nil n0
  have pre0 : ∀ t, Steps p.tables e below (s₁.setTop (mkF m 0 #[uR a1, uR a2, uL q3, uS, uU] [])) t → Steps p.tables e below (s₁.setTop (entryFrame m #[(.ref a1), (.ref a2), (.long q3)] 5)) t := fun t k => castTop (ef_la_4 m a1 a2 q3) k
  obtain ⟨T1, X1, e1, st1⟩ := getF X0 hx hZ hown (host := "") (Or.inl (own_w hw (i := 27) rfl)) Via.refl e0 F_count_a1 (g := (mkF m 3 #[uR a1, uR a2, uL q3, uS, uU] [(.ref a1), (.int 0), (.ref a2)])) rfl rfl (hb hby d4_3)
  -- pc 7: Arrays.binarySearch by rmbs_4
  obtain ⟨_, _, ⟨T2, L2, ck2, cn2⟩, -, X2, ⟨Lc2, hQ2, l2, y2, z2⟩, st2⟩ := Jvm.LawKit.callS X1 hx (y := (⟨"java/util/Arrays", "binarySearch", "([JIIJ)I"⟩ : MethodName)) hown (mvT hZ (own_w hw (i := 29) rfl)) (mvT hZ (own_w hw (i := 30) rfl)) (mvT hZ (own_w hw (i := 31) rfl)) (mvT hZ (own_w hw (i := 32) rfl)) (by decide) (backOf (W := 0) (rmbs_4 l Z a0 hw [] a2 q3 k1 h0 n0 Z0 V_a2) hZ (own_w hw (i := 32) rfl) (own_w hw (i := 31) rfl) (by decide) (by decide)) (g := (mkF m 7 #[uR a1, uR a2, uL q3, uS, uU] [(.long q3), (.int 4), (.int 0), (.ref a2)])) rfl (by rw [hml]; rfl) (argsL := [(.ref a2), (.int 0), (.int 4), (.long q3)]) (rest := []) (lenOf pd_183 rfl) rfl (by show 2 * 0 + _ ≤ _; exact Nat.le_of_eq rfl) (hb hby d4_7) (fun _ _ => ⟨rfl, e1, (by decide : 0 + 0 ≤ _), (by decide : 0 + 0 ≤ _)⟩)
  dsimp only [Pt.U, Pt.locs, Pt.cells, Pt.slots] at X2 l2 y2 z2 st2 hQ2
  subst y2 z2
  obtain ⟨rfl, N2q, e2⟩ := hQ2
  have N3 : Fr n0 L2 := by rw [l2]; exact Fr.app N0 N2q
  have pre4 : ∀ t, Steps p.tables e below (T2.setTop (mkF m 14 #[uR a1, uR a2, uL q3, uS, uI (fb0_4 q3)] [(.int (fb0_4 q3))])) t → Steps p.tables e below (s₁.setTop (entryFrame m #[(.ref a1), (.ref a2), (.long q3)] 5)) t := fun t k => pre0 t (by
    show Steps p.tables e below (s₁.setTop (mkF m 0 #[uR a1, uR a2, uL q3, uS, uU] [])) _
    refine XS.aloadN X0.here hx rfl (hb hby d4_0) rfl rfl ?_
    refine XS.iconst X0.here hx rfl (hb hby d4_1) ?_
    refine XS.aloadN X0.here hx rfl (hb hby d4_2) rfl rfl ?_
    refine st1 _ ?_
    refine XS.lloadN X1.here hx rfl (hb hby d4_6) rfl ?_
    refine st2 _ ?_
    refine XS.istore X2.here hx rfl (hb hby d4_10) rfl (l' := #[uR a1, uR a2, uL q3, uS, uI (fb0_4 q3)]) rfl ?_
    refine XS.iload X2.here hx rfl (hb hby d4_12) rfl ?_
    exact k)
  by_cases hc5 : (fb0_4 q3) < (0 : Int32)
  ·  -- pc 14: (fb0_4 q3) < (0 : Int32)
    obtain ⟨fs, hr, hrun, hended, hW, hsame⟩ := X2.leave (v := some (.int ((-(fb0_4 q3)) - (2 : Int32)))) (fun h => by rw [Bd.returns] at h; cases h) Bd.notSynchronized
    refine ⟨_, _, pre4 _ ?_, hrun, hended, _, _, rfl, ?_, ⟨_, rfl⟩, hW, hsame.mono (by decide) (by decide)⟩
    · show Steps p.tables e below (T2.setTop (mkF m 14 #[uR a1, uR a2, uL q3, uS, uI (fb0_4 q3)] [(.int (fb0_4 q3))])) _
      refine XS.ifYes X2.here hx rfl (pc0 := 14) (pc' := 22) rfl (hb hby d4_14) rfl ((if0 _ _).trans (tlt hc5).1) (by decide) (by decide) ?_
      refine XS.iload X2.here hx rfl (hb hby d4_22) rfl ?_
      refine XS.ineg X2.here hx rfl (hb hby d4_24) rfl ?_
      refine XS.iconst X2.here hx rfl (hb hby d4_25) ?_
      refine XS.isub X2.here hx rfl (hb hby d4_26) rfl ?_
      exact retI X2 hx Bd.returns (hb hby d4_27) hr
    · show Qla_4 Z a1 a2 q3 k1 r h0 n0 _ T2.heap _
      rw [e2]
      exact ⟨(by rw [← hrr]; unfold fla_4; rw [if_pos hc5]), N3, rfl⟩
  ·  -- pc 14: not (fb0_4 q3) < (0 : Int32)
    obtain ⟨fs, hr, hrun, hended, hW, hsame⟩ := X2.leave (v := some (.int (fb0_4 q3))) (fun h => by rw [Bd.returns] at h; cases h) Bd.notSynchronized
    refine ⟨_, _, pre4 _ ?_, hrun, hended, _, _, rfl, ?_, ⟨_, rfl⟩, hW, hsame.mono (by decide) (by decide)⟩
    · show Steps p.tables e below (T2.setTop (mkF m 14 #[uR a1, uR a2, uL q3, uS, uI (fb0_4 q3)] [(.int (fb0_4 q3))])) _
      refine XS.ifNo X2.here hx rfl (hb hby d4_14) rfl ((if0 _ _).trans (flt hc5).1) ?_
      refine XS.iload X2.here hx rfl (hb hby d4_17) rfl ?_
      refine XS.goto X2.here hx rfl (pc0 := 19) (pc' := 27) rfl (hb hby d4_19) (by decide) (by decide) ?_
      exact retI X2 hx Bd.returns (hb hby d4_27) hr
    · show Qla_4 Z a1 a2 q3 k1 r h0 n0 _ T2.heap _
      rw [e2]
      exact ⟨(by rw [← hrr]; unfold fla_4; rw [if_neg hc5]), N3, rfl⟩
theorem d3_0 : decode prog_126_method_11_code 0 = .ok (.aload_n 0, 1) := by decide +kernel
theorem d3_1 : decode prog_126_method_11_code 1 = .ok (.aload_n 0, 1) := by decide +kernel
theorem d3_2 : decode prog_126_method_11_code 2 = .ok (.getfield 16, 3) := by decide +kernel
theorem d3_5 : decode prog_126_method_11_code 5 = .ok (.lload_n 1, 1) := by decide +kernel
theorem d3_6 : decode prog_126_method_11_code 6 = .ok (.lconst 1, 1) := by decide +kernel
theorem d3_7 : decode prog_126_method_11_code 7 = .ok (.lsub, 1) := by decide +kernel
theorem d3_8 : decode prog_126_method_11_code 8 = .ok (.invokevirtual 47, 3) := by decide +kernel
theorem pd_239 : parseMethodDescriptor "([JJ)I" = some ⟨[(.array .long), .long], some .int⟩ := by decide +kernel
theorem d3_11 : decode prog_126_method_11_code 11 = .ok (.iconst 1, 1) := by decide +kernel
theorem d3_12 : decode prog_126_method_11_code 12 = .ok (.iadd, 1) := by decide +kernel
theorem d3_13 : decode prog_126_method_11_code 13 = .ok (.istore_n 3, 1) := by decide +kernel
theorem d3_14 : decode prog_126_method_11_code 14 = .ok (.aload_n 0, 1) := by decide +kernel
theorem d3_15 : decode prog_126_method_11_code 15 = .ok (.dup, 1) := by decide +kernel
theorem d3_16 : decode prog_126_method_11_code 16 = .ok (.getfield 22, 3) := by decide +kernel
theorem d3_19 : decode prog_126_method_11_code 19 = .ok (.iload_n 3, 1) := by decide +kernel
theorem d3_20 : decode prog_126_method_11_code 20 = .ok (.isub, 1) := by decide +kernel
theorem d3_21 : decode prog_126_method_11_code 21 = .ok (.putfield 22, 3) := by decide +kernel
theorem d3_24 : decode prog_126_method_11_code 24 = .ok (.aload_n 0, 1) := by decide +kernel
theorem d3_25 : decode prog_126_method_11_code 25 = .ok (.dup, 1) := by decide +kernel
theorem d3_26 : decode prog_126_method_11_code 26 = .ok (.getfield 39, 3) := by decide +kernel
theorem d3_29 : decode prog_126_method_11_code 29 = .ok (.iload_n 3, 1) := by decide +kernel
theorem d3_30 : decode prog_126_method_11_code 30 = .ok (.i2l, 1) := by decide +kernel
theorem d3_31 : decode prog_126_method_11_code 31 = .ok (.ladd, 1) := by decide +kernel
theorem d3_32 : decode prog_126_method_11_code 32 = .ok (.putfield 39, 3) := by decide +kernel
theorem sn_256 {Z : State} {a0 : Array Value} (hw : ∀ d ∈ tables_1, d.before a0 Z = true) : Jvm.RoadKit.slotOf Z KC KB "[J" ≠ Jvm.RoadKit.slotOf Z KC "first" "J" := slot_ne (Or.inl (own_w hw (i := 12) rfl)) (Or.inl (own_w hw (i := 40) rfl)) (by decide) (t := (.array .long)) (t' := .long) (by decide) (by decide)
theorem sn_257 {Z : State} {a0 : Array Value} (hw : ∀ d ∈ tables_1, d.before a0 Z = true) : Jvm.RoadKit.slotOf Z KC KP "[J" ≠ Jvm.RoadKit.slotOf Z KC "first" "J" := slot_ne (Or.inl (own_w hw (i := 14) rfl)) (Or.inl (own_w hw (i := 40) rfl)) (by decide) (t := (.array .long)) (t' := .long) (by decide) (by decide)
theorem sn_258 {Z : State} {a0 : Array Value} (hw : ∀ d ∈ tables_1, d.before a0 Z = true) : Jvm.RoadKit.slotOf Z KC KM "[J" ≠ Jvm.RoadKit.slotOf Z KC "first" "J" := slot_ne (Or.inl (own_w hw (i := 16) rfl)) (Or.inl (own_w hw (i := 40) rfl)) (by decide) (t := (.array .long)) (t' := .long) (by decide) (by decide)
theorem sn_259 {Z : State} {a0 : Array Value} (hw : ∀ d ∈ tables_1, d.before a0 Z = true) : Jvm.RoadKit.slotOf Z KC "count" "I" ≠ Jvm.RoadKit.slotOf Z KC "first" "J" := slot_ne (Or.inl (own_w hw (i := 28) rfl)) (Or.inl (own_w hw (i := 40) rfl)) (by decide) (t := .int) (t' := .long) (by decide) (by decide)
theorem d3_35 : decode prog_126_method_11_code 35 = .ok (.aload_n 0, 1) := by decide +kernel
theorem d3_36 : decode prog_126_method_11_code 36 = .ok (.getfield 13, 3) := by decide +kernel
theorem d3_39 : decode prog_126_method_11_code 39 = .ok (.iload_n 3, 1) := by decide +kernel
theorem d3_40 : decode prog_126_method_11_code 40 = .ok (.aload_n 0, 1) := by decide +kernel
theorem d3_41 : decode prog_126_method_11_code 41 = .ok (.getfield 13, 3) := by decide +kernel
theorem d3_44 : decode prog_126_method_11_code 44 = .ok (.iconst 0, 1) := by decide +kernel
theorem d3_45 : decode prog_126_method_11_code 45 = .ok (.aload_n 0, 1) := by decide +kernel
theorem d3_46 : decode prog_126_method_11_code 46 = .ok (.getfield 22, 3) := by decide +kernel
theorem d3_49 : decode prog_126_method_11_code 49 = .ok (.invokestatic 51, 3) := by decide +kernel
theorem d3_52 : decode prog_126_method_11_code 52 = .ok (.aload_n 0, 1) := by decide +kernel
theorem d3_53 : decode prog_126_method_11_code 53 = .ok (.getfield 16, 3) := by decide +kernel
theorem d3_56 : decode prog_126_method_11_code 56 = .ok (.iload_n 3, 1) := by decide +kernel
theorem d3_57 : decode prog_126_method_11_code 57 = .ok (.aload_n 0, 1) := by decide +kernel
theorem d3_58 : decode prog_126_method_11_code 58 = .ok (.getfield 16, 3) := by decide +kernel
theorem d3_61 : decode prog_126_method_11_code 61 = .ok (.iconst 0, 1) := by decide +kernel
theorem d3_62 : decode prog_126_method_11_code 62 = .ok (.aload_n 0, 1) := by decide +kernel
theorem d3_63 : decode prog_126_method_11_code 63 = .ok (.getfield 22, 3) := by decide +kernel
theorem d3_66 : decode prog_126_method_11_code 66 = .ok (.invokestatic 51, 3) := by decide +kernel
theorem d3_69 : decode prog_126_method_11_code 69 = .ok (.aload_n 0, 1) := by decide +kernel
theorem d3_70 : decode prog_126_method_11_code 70 = .ok (.getfield 19, 3) := by decide +kernel
theorem d3_73 : decode prog_126_method_11_code 73 = .ok (.iload_n 3, 1) := by decide +kernel
theorem d3_74 : decode prog_126_method_11_code 74 = .ok (.aload_n 0, 1) := by decide +kernel
theorem d3_75 : decode prog_126_method_11_code 75 = .ok (.getfield 19, 3) := by decide +kernel
theorem d3_78 : decode prog_126_method_11_code 78 = .ok (.iconst 0, 1) := by decide +kernel
theorem d3_79 : decode prog_126_method_11_code 79 = .ok (.aload_n 0, 1) := by decide +kernel
theorem d3_80 : decode prog_126_method_11_code 80 = .ok (.getfield 22, 3) := by decide +kernel
theorem d3_83 : decode prog_126_method_11_code 83 = .ok (.invokestatic 51, 3) := by decide +kernel
theorem d3_86 : decode prog_126_method_11_code 86 = .ok (.aload_n 0, 1) := by decide +kernel
theorem d3_87 : decode prog_126_method_11_code 87 = .ok (.aload_n 0, 1) := by decide +kernel
theorem d3_88 : decode prog_126_method_11_code 88 = .ok (.getfield 22, 3) := by decide +kernel
theorem d3_91 : decode prog_126_method_11_code 91 = .ok (.iconst 2, 1) := by decide +kernel
theorem d3_92 : decode prog_126_method_11_code 92 = .ok (.imul, 1) := by decide +kernel
theorem d3_93 : decode prog_126_method_11_code 93 = .ok (.bipush 8, 2) := by decide +kernel
theorem d3_95 : decode prog_126_method_11_code 95 = .ok (.invokestatic 26, 3) := by decide +kernel
theorem d3_98 : decode prog_126_method_11_code 98 = .ok (.invokevirtual 32, 3) := by decide +kernel
theorem d3_101 : decode prog_126_method_11_code 101 = .ok (.return_, 1) := by decide +kernel
theorem ef_dr00 (m : MethodId) (x0 : Addr) (x1 : Int64) : entryFrame m #[(.ref x0), (.long x1)] 4 = mkF m 0 #[.val (.ref x0), .val (.long x1), .second, .unset] [] := by first | (simp [entryFrame, mkF, argsToLocals, Value.category]; done) | rfl
abbrev R_dr00 : Room := { frames := 3, cells := 3, slots := 24, locals := 84 }
def Qdr00 (Z : State) (a1 : Addr) (q2 : Int64) (w : Addr) (kw : ClassId) (h0 : Heap) (n0 : Nat) (v : Option Value) (h : Heap) (L : List Loc) : Prop := ∃ (n1 : Addr) (kn1 : ClassId) (n2 : Addr) (kn2 : ClassId) (n3 : Addr) (kn3 : ClassId), v = none ∧ Fr n0 L ∧ Keep h0 h [a1] ∧ n0 ≤ n1 ∧ n0 ≤ n2 ∧ n0 ≤ n3 ∧ h0.size ≤ n1 ∧ h0.size ≤ n2 ∧ h0.size ≤ n3 ∧ n2 ≠ n1 ∧ n3 ≠ n1 ∧ n3 ≠ n2 ∧ Exa Z h a1 KC ∧ Fld Z h a1 KC "count" "I" (.int 0) ∧ Fld Z h a1 KC "first" "J" (.long 0) ∧ Fld Z h a1 KC KM "[J" (.ref n3) ∧ Arv Z h n3 kn3 .long (8 : Int32) [(.long 0), (.long 0), (.long 0), (.long 0), (.long 0), (.long 0), (.long 0), (.long 0)] (.long 0)
set_option maxRecDepth 65536 in
set_option maxHeartbeats 40000000 in
theorem rmdr00 (l : Launch) (Z : State) (a0 : Array Value) (hw : ∀ d ∈ tables_1, d.before a0 Z = true) (ws : List Jvm.Cond) (a1 : Addr) (q2 : Int64) (w : Addr) (kw : ClassId) (h0 : Heap) (n0 : Nat) (Z0 : n0 ≤ h0.size) (E_a1 : Exa Z h0 a1 KC) (F_baseOffsets_a1 : Fld Z h0 a1 KC KB "[J" (.ref w)) (F_positions_a1 : Fld Z h0 a1 KC KP "[J" (.ref w)) (F_maxTimestampsSoFar_a1 : Fld Z h0 a1 KC KM "[J" (.ref w)) (F_count_a1 : Fld Z h0 a1 KC "count" "I" (.int 0)) (F_first_a1 : Fld Z h0 a1 KC "first" "J" (.long 0)) (V_w : Arv Z h0 w kw .long (0 : Int32) [] (.long 0)) (g_a1 : n0 ≤ a1) (ne_w_a1 : w ≠ a1) :
    MetFree l (⟨KC, "dropBefore", "(J)V"⟩ : MethodName) (head1 (Jvm.Cond.code (⟨KC, "dropBefore", "(J)V"⟩ : MethodName) prog_126_method_11_code 4 none :: ws) R_dr00) (fun a U => a = #[(.ref a1), (.long q2)] ∧ Z.Warmed39 U.vm ∧ U.heap = h0) (fun _ _ _ _ _ => True) (fun _ U o U' => ∃ v L, o = .returned v ∧ Qdr00 Z a1 q2 w kw h0 n0 v U'.heap L ∧ FrameEnd U o U' L R_dr00.cells R_dr00.slots) := by
  refine MetFree.of_bodySF (plainFor_of_name pn_55) hisR ?_
  intro p e s m args below meth c s₁ Bd hml0 hP hK
  obtain ⟨rfl, hZ, hh⟩ := hP
  have hx := Bd.exec
  have hby := Bd.bytes
  have hml : c.maxLocals = 4 := hml0
  have hown : s.vm.findClass KC = some m.cls := findClass_of_methodNamed Bd.named
  have hnm := (name_of_methodNamed Bd.named Bd.method).1
  have X0 : Stand p l e R_dr00 s m #[(.ref a1), (.long q2)] below meth c s₁ [] 0 0 := Stand.of_body Bd
  have e0 : s₁.heap = h0 := by rw [← hh, Bd.state]; rfl
  have N0 := Fr.nil n0
  have pre0 : ∀ t, Steps p.tables e below (s₁.setTop (mkF m 0 #[uR a1, uL q2, uS, uU] [])) t → Steps p.tables e below (s₁.setTop (entryFrame m #[(.ref a1), (.long q2)] 4)) t := fun t k => castTop (ef_dr00 m a1 q2) k
  obtain ⟨T1, X1, e1, st1⟩ := getF X0 hx hZ hown (host := "") (Or.inl (own_w hw (i := 13) rfl)) Via.refl e0 F_positions_a1 (g := (mkF m 2 #[uR a1, uL q2, uS, uU] [(.ref a1), (.ref a1)])) rfl rfl (hb hby d3_2)
  -- pc 8: BatchIndex.lastAtOrBefore by rmla_0
  obtain ⟨cq2, qc2, qc2'⟩ := E_a1.cell
  obtain ⟨_, _, ⟨T2, L2, ck2, cn2⟩, -, X2, ⟨Lc2, hQ2, l2, y2, z2⟩, st2⟩ := X1.privateBack hx (y := (⟨KC, "lastAtOrBefore", "([JJ)I"⟩ : MethodName)) hown (mvT hZ (own_w hw (i := 23) rfl)) (mvT hZ (own_w hw (i := 24) rfl)) (own_sel (y := (⟨KC, "lastAtOrBefore", "([JJ)I"⟩ : MethodName)) (mvT hZ (own_w hw (i := 1) rfl)) (Cond.privateMethod_at (mvP hZ (own_w hw (i := 25) rfl) (args := #[]))) (mvT hZ (own_w hw (i := 24) rfl)) (by decide)) (Cond.privateMethod_at (mvP hZ (own_w hw (i := 25) rfl) (args := #[]))) (mvT hZ (own_w hw (i := 26) rfl)) (by decide) (backOf (W := 0) (rmla_0 l Z a0 hw [] a1 w (q2 - (1 : Int64)) kw h0 n0 Z0 F_count_a1 V_w) hZ (own_w hw (i := 26) rfl) (own_w hw (i := 2) rfl) (by decide) (by decide)) (g := (mkF m 8 #[uR a1, uL q2, uS, uU] [(.long (q2 - (1 : Int64))), (.ref w), (.ref a1)])) rfl (by rw [hml]; rfl) (Steps.refl _) (a := a1) (by rw [e1]; exact qc2) qc2' (argsL := [(.ref w), (.long (q2 - (1 : Int64)))]) (rest := []) (lenOf pd_239 rfl) rfl (by show 2 * 0 + _ ≤ _; exact Nat.le_of_eq rfl) (hb hby d3_8) (fun _ _ => ⟨rfl, e1, (by decide : 0 + 0 ≤ _), (by decide : 0 + 0 ≤ _)⟩)
  dsimp only [Pt.U, Pt.locs, Pt.cells, Pt.slots] at X2 l2 y2 z2 st2 hQ2
  subst y2 z2
  obtain ⟨rfl, N2q, e2⟩ := hQ2
  have N3 : Fr n0 L2 := by rw [l2]; exact Fr.app N0 N2q
  obtain ⟨T4, X4, e4, st4⟩ := getF X2 hx hZ hown (host := "") (Or.inl (own_w hw (i := 27) rfl)) Via.refl e2 F_count_a1 (g := (mkF m 16 #[uR a1, uL q2, uS, uI 0] [(.ref a1), (.ref a1)])) rfl rfl (hb hby d3_16)
  obtain ⟨T5, h5, X5, e5, W5, st5⟩ := putF X4 hx hZ hown (host := "") (Or.inl (own_w hw (i := 27) rfl)) Via.refl e4 F_count_a1 E_a1 (Or.inl (own_w hw (i := 28) rfl)) (own_w hw (i := 1) rfl) (ty := .int) (by decide) rfl rfl (g := (mkF m 21 #[uR a1, uL q2, uS, uI 0] [(.int 0), (.ref a1)])) rfl rfl (hb hby d3_21)
  have f6 := E_a1.wr W5
  have f7 := F_baseOffsets_a1.other W5 (Or.inr (sn_143 hw))
  have f8 := F_positions_a1.other W5 (Or.inr (sn_144 hw))
  have f9 := F_maxTimestampsSoFar_a1.other W5 (Or.inr (sn_145 hw))
  have f10 := F_count_a1.same W5
  have f11 := F_first_a1.other W5 (Or.inr (sn_146 hw))
  have f12 := V_w.other W5 ne_w_a1
  have K13 := (Keep.refl h0 [a1]).wr W5 (Or.inl (List.mem_of_getElem? (i := 0) rfl))
  have zs14 : n0 ≤ h5.size := Nat.le_trans Z0 (Keep.of_wr W5).1
  have N15 := Fr.snoc X5 N3 g_a1
  obtain ⟨T16, X16, e16, st16⟩ := getF X5 hx hZ hown (host := "") (Or.inl (own_w hw (i := 39) rfl)) Via.refl e5 f11 (g := (mkF m 26 #[uR a1, uL q2, uS, uI 0] [(.ref a1), (.ref a1)])) rfl rfl (hb hby d3_26)
  obtain ⟨T17, h17, X17, e17, W17, st17⟩ := putF X16 hx hZ hown (host := "") (Or.inl (own_w hw (i := 39) rfl)) Via.refl e16 f11 f6 (Or.inl (own_w hw (i := 40) rfl)) (own_w hw (i := 1) rfl) (ty := .long) (by decide) rfl rfl (g := (mkF m 32 #[uR a1, uL q2, uS, uI 0] [(.long 0), (.ref a1)])) rfl rfl (hb hby d3_32)
  have f18 := f6.wr W17
  have f19 := f7.other W17 (Or.inr (sn_256 hw))
  have f20 := f8.other W17 (Or.inr (sn_257 hw))
  have f21 := f9.other W17 (Or.inr (sn_258 hw))
  have f22 := f10.other W17 (Or.inr (sn_259 hw))
  have f23 := f11.same W17
  have f24 := f12.other W17 ne_w_a1
  have K25 := K13.wr W17 (Or.inl (List.mem_of_getElem? (i := 0) rfl))
  have zs26 : n0 ≤ h17.size := Nat.le_trans zs14 (Keep.of_wr W17).1
  have N27 := Fr.snoc X17 N15 g_a1
  obtain ⟨T28, X28, e28, st28⟩ := getF X17 hx hZ hown (host := "") (Or.inl (own_w hw (i := 11) rfl)) Via.refl e17 f19 (g := (mkF m 36 #[uR a1, uL q2, uS, uI 0] [(.ref a1)])) rfl rfl (hb hby d3_36)
  obtain ⟨T29, X29, e29, st29⟩ := getF X28 hx hZ hown (host := "") (Or.inl (own_w hw (i := 11) rfl)) Via.refl e28 f19 (g := (mkF m 41 #[uR a1, uL q2, uS, uI 0] [(.ref a1), (.int 0), (.ref w)])) rfl rfl (hb hby d3_41)
  obtain ⟨T30, X30, e30, st30⟩ := getF X29 hx hZ hown (host := "") (Or.inl (own_w hw (i := 27) rfl)) Via.refl e29 f22 (g := (mkF m 46 #[uR a1, uL q2, uS, uI 0] [(.ref a1), (.int 0), (.ref w), (.int 0), (.ref w)])) rfl rfl (hb hby d3_46)
  obtain ⟨T31, X31, e31, st31⟩ := own_cp0 X30 hx hZ hown (own_w hw (i := 41) rfl) (own_w hw (i := 44) rfl) (own_w hw (i := 42) rfl) (own_w hw (i := 43) rfl) e30 f24 f24 (sp := (0 : Int32)) (dp := (0 : Int32)) (by decide) (by decide) (by decide) (by decide) (by decide) (g := (mkF m 49 #[uR a1, uL q2, uS, uI 0] [(.int 0), (.int 0), (.ref w), (.int 0), (.ref w)])) rfl (by rw [hml]; rfl) rfl (hb hby d3_49) (by decide) (W := 0) (by show 2 * 0 + _ ≤ _; exact Nat.le_of_eq rfl) (by decide)
  obtain ⟨T32, X32, e32, st32⟩ := getF X31 hx hZ hown (host := "") (Or.inl (own_w hw (i := 13) rfl)) Via.refl e31 f20 (g := (mkF m 53 #[uR a1, uL q2, uS, uI 0] [(.ref a1)])) rfl rfl (hb hby d3_53)
  obtain ⟨T33, X33, e33, st33⟩ := getF X32 hx hZ hown (host := "") (Or.inl (own_w hw (i := 13) rfl)) Via.refl e32 f20 (g := (mkF m 58 #[uR a1, uL q2, uS, uI 0] [(.ref a1), (.int 0), (.ref w)])) rfl rfl (hb hby d3_58)
  obtain ⟨T34, X34, e34, st34⟩ := getF X33 hx hZ hown (host := "") (Or.inl (own_w hw (i := 27) rfl)) Via.refl e33 f22 (g := (mkF m 63 #[uR a1, uL q2, uS, uI 0] [(.ref a1), (.int 0), (.ref w), (.int 0), (.ref w)])) rfl rfl (hb hby d3_63)
  obtain ⟨T35, X35, e35, st35⟩ := own_cp0 X34 hx hZ hown (own_w hw (i := 41) rfl) (own_w hw (i := 44) rfl) (own_w hw (i := 42) rfl) (own_w hw (i := 43) rfl) e34 f24 f24 (sp := (0 : Int32)) (dp := (0 : Int32)) (by decide) (by decide) (by decide) (by decide) (by decide) (g := (mkF m 66 #[uR a1, uL q2, uS, uI 0] [(.int 0), (.int 0), (.ref w), (.int 0), (.ref w)])) rfl (by rw [hml]; rfl) rfl (hb hby d3_66) (by decide) (W := 0) (by show 2 * 0 + _ ≤ _; exact Nat.le_of_eq rfl) (by decide)
  obtain ⟨T36, X36, e36, st36⟩ := getF X35 hx hZ hown (host := "") (Or.inl (own_w hw (i := 15) rfl)) Via.refl e35 f21 (g := (mkF m 70 #[uR a1, uL q2, uS, uI 0] [(.ref a1)])) rfl rfl (hb hby d3_70)
  obtain ⟨T37, X37, e37, st37⟩ := getF X36 hx hZ hown (host := "") (Or.inl (own_w hw (i := 15) rfl)) Via.refl e36 f21 (g := (mkF m 75 #[uR a1, uL q2, uS, uI 0] [(.ref a1), (.int 0), (.ref w)])) rfl rfl (hb hby d3_75)
  obtain ⟨T38, X38, e38, st38⟩ := getF X37 hx hZ hown (host := "") (Or.inl (own_w hw (i := 27) rfl)) Via.refl e37 f22 (g := (mkF m 80 #[uR a1, uL q2, uS, uI 0] [(.ref a1), (.int 0), (.ref w), (.int 0), (.ref w)])) rfl rfl (hb hby d3_80)
  obtain ⟨T39, X39, e39, st39⟩ := own_cp0 X38 hx hZ hown (own_w hw (i := 41) rfl) (own_w hw (i := 44) rfl) (own_w hw (i := 42) rfl) (own_w hw (i := 43) rfl) e38 f24 f24 (sp := (0 : Int32)) (dp := (0 : Int32)) (by decide) (by decide) (by decide) (by decide) (by decide) (g := (mkF m 83 #[uR a1, uL q2, uS, uI 0] [(.int 0), (.int 0), (.ref w), (.int 0), (.ref w)])) rfl (by rw [hml]; rfl) rfl (hb hby d3_83) (by decide) (W := 0) (by show 2 * 0 + _ ≤ _; exact Nat.le_of_eq rfl) (by decide)
  obtain ⟨T40, X40, e40, st40⟩ := getF X39 hx hZ hown (host := "") (Or.inl (own_w hw (i := 27) rfl)) Via.refl e39 f22 (g := (mkF m 88 #[uR a1, uL q2, uS, uI 0] [(.ref a1), (.ref a1)])) rfl rfl (hb hby d3_88)
  -- pc 95: Math.max by rmmx2
  obtain ⟨_, _, ⟨T41, L41, ck41, cn41⟩, -, X41, ⟨Lc41, hQ41, l41, y41, z41⟩, st41⟩ := Jvm.LawKit.callS X40 hx (y := (⟨"java/lang/Math", "max", "(II)I"⟩ : MethodName)) hown (mvT hZ (own_w hw (i := 45) rfl)) (mvT hZ (own_w hw (i := 46) rfl)) (mvT hZ (own_w hw (i := 47) rfl)) (mvT hZ (own_w hw (i := 48) rfl)) (by decide) (backOf (W := 1) (rmmx2 l Z a0 hw [] (0 : Int32) (8 : Int32) h17 n0 zs26 (by decide)) hZ (own_w hw (i := 48) rfl) (own_w hw (i := 47) rfl) (by decide) (by decide)) (g := (mkF m 95 #[uR a1, uL q2, uS, uI 0] [(.int 8), (.int 0), (.ref a1)])) rfl (by rw [hml]; rfl) (argsL := [(.int 0), (.int 8)]) (rest := [(.ref a1)]) (lenOf pd_47 rfl) rfl (by show 2 * 0 + _ ≤ _; exact Nat.le_of_eq rfl) (hb hby d3_95) (fun _ _ => ⟨rfl, e40, (by decide : 0 + 0 ≤ _), (by decide : 0 + 0 ≤ _)⟩)
  dsimp only [Pt.U, Pt.locs, Pt.cells, Pt.slots] at X41 l41 y41 z41 st41 hQ41
  subst y41 z41
  obtain ⟨rfl, N41q, e41⟩ := hQ41
  have N42 : Fr n0 L41 := by rw [l41]; exact Fr.app N27 N41q
  -- pc 98: BatchIndex.resize by rmrz0
  obtain ⟨cq43, qc43, qc43'⟩ := f18.cell
  obtain ⟨_, _, ⟨T43, L43, ck43, cn43⟩, -, X43, ⟨Lc43, hQ43, l43, y43, z43⟩, st43⟩ := X41.privateBack hx (y := (⟨KC, "resize", "(I)V"⟩ : MethodName)) hown (mvT hZ (own_w hw (i := 49) rfl)) (mvT hZ (own_w hw (i := 50) rfl)) (own_sel (y := (⟨KC, "resize", "(I)V"⟩ : MethodName)) (mvT hZ (own_w hw (i := 1) rfl)) (Cond.privateMethod_at (mvP hZ (own_w hw (i := 51) rfl) (args := #[]))) (mvT hZ (own_w hw (i := 50) rfl)) (by decide)) (Cond.privateMethod_at (mvP hZ (own_w hw (i := 51) rfl) (args := #[]))) (mvT hZ (own_w hw (i := 52) rfl)) (by decide) (backOf (W := 0) (rmrz0 l Z a0 hw [] a1 w kw (0 : Int32) (0 : Int64) h17 n0 zs26 f18 f22 f23 f19 f20 f21 f24 g_a1 ne_w_a1) hZ (own_w hw (i := 52) rfl) (own_w hw (i := 2) rfl) (by decide) (by decide)) (g := (mkF m 98 #[uR a1, uL q2, uS, uI 0] [(.int 8), (.ref a1)])) rfl (by rw [hml]; rfl) (Steps.refl _) (a := a1) (by rw [e41]; exact qc43) qc43' (argsL := [(.int 8)]) (rest := []) (lenOf pd_114 rfl) rfl (by show 2 * 0 + _ ≤ _; exact Nat.le_of_eq rfl) (hb hby d3_98) (fun _ _ => ⟨rfl, e41, (by decide : 0 + 3 ≤ _), (by decide : 0 + 24 ≤ _)⟩)
  dsimp only [Pt.U, Pt.locs, Pt.cells, Pt.slots] at X43 l43 y43 z43 st43 hQ43
  subst y43 z43
  obtain ⟨n1_43, kn1_43, n2_43, kn2_43, n3_43, kn3_43, rfl, N43q, K43q, gq43_0, gq43_1, gq43_2, sq43_0, sq43_1, sq43_2, nq43_1_0, nq43_2_0, nq43_2_1, o43_0, o43_1, o43_2, o43_3, o43_4, o43_5, o43_6, o43_7, o43_8, o43_9, o43_10, o43_11⟩ := hQ43
  have N44 : Fr n0 L43 := by rw [l43]; exact Fr.app N42 N43q
  have sz_n1_43 : h0.size ≤ n1_43 := Nat.le_trans K25.1 sq43_0
  have sz_n2_43 : h0.size ≤ n2_43 := Nat.le_trans K25.1 sq43_1
  have sz_n3_43 : h0.size ≤ n3_43 := Nat.le_trans K25.1 sq43_2
  have K59 := K25.trans K43q (allS (Or.inl (List.mem_of_getElem? (i := 0) rfl)) all0)
  obtain ⟨fs, hr, hrun, hended, hW, hsame⟩ := X43.leave (v := none) (fun _ => rfl) Bd.notSynchronized
  refine ⟨_, _, pre0 _ ?_, hrun, hended, _, _, rfl, ?_, ⟨_, rfl⟩, hW, hsame.mono (by decide) (by decide)⟩
  · show Steps p.tables e below (s₁.setTop (mkF m 0 #[uR a1, uL q2, uS, uU] [])) _
    refine XS.aloadN X0.here hx rfl (hb hby d3_0) rfl rfl ?_
    refine XS.aloadN X0.here hx rfl (hb hby d3_1) rfl rfl ?_
    refine st1 _ ?_
    refine XS.lloadN X1.here hx rfl (hb hby d3_5) rfl ?_
    refine XS.lconst X1.here hx rfl (hb hby d3_6) ?_
    refine XS.lsub X1.here hx rfl (hb hby d3_7) rfl ?_
    refine st2.trans ?_
    refine XS.iconst X2.here hx rfl (hb hby d3_11) ?_
    refine XS.iadd X2.here hx rfl (hb hby d3_12) rfl ?_
    refine XS.istoreN X2.here hx rfl (hb hby d3_13) rfl (l' := #[uR a1, uL q2, uS, uI 0]) rfl ?_
    refine XS.aloadN X2.here hx rfl (hb hby d3_14) rfl rfl ?_
    refine XS.dup X2.here hx rfl (hb hby d3_15) rfl rfl ?_
    refine st4 _ ?_
    refine XS.iloadN X4.here hx rfl (hb hby d3_19) rfl ?_
    refine XS.isub X4.here hx rfl (hb hby d3_20) rfl ?_
    refine st5 _ ?_
    show Steps p.tables e below (T5.setTop (mkF m 24 #[uR a1, uL q2, uS, uI 0] [])) _
    refine XS.aloadN X5.here hx rfl (hb hby d3_24) rfl rfl ?_
    refine XS.dup X5.here hx rfl (hb hby d3_25) rfl rfl ?_
    refine st16 _ ?_
    refine XS.iloadN X16.here hx rfl (hb hby d3_29) rfl ?_
    refine XS.i2l X16.here hx rfl (hb hby d3_30) rfl ?_
    refine XS.ladd X16.here hx rfl (hb hby d3_31) rfl ?_
    refine st17 _ ?_
    refine XS.aloadN X17.here hx rfl (hb hby d3_35) rfl rfl ?_
    refine st28 _ ?_
    refine XS.iloadN X28.here hx rfl (hb hby d3_39) rfl ?_
    refine XS.aloadN X28.here hx rfl (hb hby d3_40) rfl rfl ?_
    refine st29 _ ?_
    refine XS.iconst X29.here hx rfl (hb hby d3_44) ?_
    refine XS.aloadN X29.here hx rfl (hb hby d3_45) rfl rfl ?_
    refine st30 _ ?_
    refine st31 _ ?_
    show Steps p.tables e below (T31.setTop (mkF m 52 #[uR a1, uL q2, uS, uI 0] [])) _
    refine XS.aloadN X31.here hx rfl (hb hby d3_52) rfl rfl ?_
    refine st32 _ ?_
    refine XS.iloadN X32.here hx rfl (hb hby d3_56) rfl ?_
    refine XS.aloadN X32.here hx rfl (hb hby d3_57) rfl rfl ?_
    refine st33 _ ?_
    refine XS.iconst X33.here hx rfl (hb hby d3_61) ?_
    refine XS.aloadN X33.here hx rfl (hb hby d3_62) rfl rfl ?_
    refine st34 _ ?_
    refine st35 _ ?_
    refine XS.aloadN X35.here hx rfl (hb hby d3_69) rfl rfl ?_
    refine st36 _ ?_
    refine XS.iloadN X36.here hx rfl (hb hby d3_73) rfl ?_
    refine XS.aloadN X36.here hx rfl (hb hby d3_74) rfl rfl ?_
    refine st37 _ ?_
    refine XS.iconst X37.here hx rfl (hb hby d3_78) ?_
    refine XS.aloadN X37.here hx rfl (hb hby d3_79) rfl rfl ?_
    show Steps p.tables e below (T37.setTop (mkF m 80 #[uR a1, uL q2, uS, uI 0] [(.ref a1), (.int 0), (.ref w), (.int 0), (.ref w)])) _
    refine st38 _ ?_
    refine st39 _ ?_
    refine XS.aloadN X39.here hx rfl (hb hby d3_86) rfl rfl ?_
    refine XS.aloadN X39.here hx rfl (hb hby d3_87) rfl rfl ?_
    refine st40 _ ?_
    refine XS.iconst X40.here hx rfl (hb hby d3_91) ?_
    refine XS.imul X40.here hx rfl (hb hby d3_92) rfl ?_
    refine XS.bipush X40.here hx rfl (hb hby d3_93) ?_
    refine st41 _ ?_
    refine st43.trans ?_
    exact X43.returnOut hx Bd.returns (hb hby d3_101) hr
  · show Qdr00 Z a1 q2 w kw h0 n0 _ T43.heap _
    exact ⟨n1_43, kn1_43, n2_43, kn2_43, n3_43, kn3_43, rfl, N44, K59, gq43_0, gq43_1, gq43_2, sz_n1_43, sz_n2_43, sz_n3_43, nq43_1_0, nq43_2_0, nq43_2_1, o43_0, o43_4, o43_5, o43_3, o43_10⟩
theorem ef_dr10 (m : MethodId) (x0 : Addr) (x1 : Int64) : entryFrame m #[(.ref x0), (.long x1)] 4 = mkF m 0 #[.val (.ref x0), .val (.long x1), .second, .unset] [] := by first | (simp [entryFrame, mkF, argsToLocals, Value.category]; done) | rfl
abbrev R_dr10 : Room := { frames := 3, cells := 3, slots := 24, locals := 56 }
def Qdr10 (Z : State) (a1 : Addr) (q2 : Int64) (aB : Addr) (aP : Addr) (aM : Addr) (kB : ClassId) (kP : ClassId) (kM : ClassId) (b0 : Int64) (b1 : Int64) (b2 : Int64) (b3 : Int64) (b4 : Int64) (b5 : Int64) (b6 : Int64) (b7 : Int64) (x0 : Int64) (x1 : Int64) (x2 : Int64) (x3 : Int64) (x4 : Int64) (x5 : Int64) (x6 : Int64) (x7 : Int64) (h0 : Heap) (n0 : Nat) (v : Option Value) (h : Heap) (L : List Loc) : Prop := ∃ (n1 : Addr) (kn1 : ClassId) (n2 : Addr) (kn2 : ClassId) (n3 : Addr) (kn3 : ClassId), v = none ∧ Fr n0 L ∧ Keep h0 h [a1, aB, aP, aM] ∧ n0 ≤ n1 ∧ n0 ≤ n2 ∧ n0 ≤ n3 ∧ h0.size ≤ n1 ∧ h0.size ≤ n2 ∧ h0.size ≤ n3 ∧ n2 ≠ n1 ∧ n3 ≠ n1 ∧ n3 ≠ n2 ∧ Exa Z h a1 KC ∧ Fld Z h a1 KC "count" "I" (.int 1) ∧ Fld Z h a1 KC "first" "J" (.long 0) ∧ Fld Z h a1 KC KM "[J" (.ref n3) ∧ Arv Z h n3 kn3 .long (8 : Int32) [(.long x0), (.long x1), (.long x2), (.long x3), (.long x4), (.long x5), (.long x6), (.long x7)] (.long 0)
set_option maxRecDepth 65536 in
set_option maxHeartbeats 40000000 in
theorem rmdr10 (l : Launch) (Z : State) (a0 : Array Value) (hw : ∀ d ∈ tables_1, d.before a0 Z = true) (ws : List Jvm.Cond) (a1 : Addr) (q2 : Int64) (aB : Addr) (aP : Addr) (aM : Addr) (kB : ClassId) (kP : ClassId) (kM : ClassId) (b0 : Int64) (b1 : Int64) (b2 : Int64) (b3 : Int64) (b4 : Int64) (b5 : Int64) (b6 : Int64) (b7 : Int64) (x0 : Int64) (x1 : Int64) (x2 : Int64) (x3 : Int64) (x4 : Int64) (x5 : Int64) (x6 : Int64) (x7 : Int64) (h0 : Heap) (n0 : Nat) (Z0 : n0 ≤ h0.size) (E_a1 : Exa Z h0 a1 KC) (F_baseOffsets_a1 : Fld Z h0 a1 KC KB "[J" (.ref aB)) (F_positions_a1 : Fld Z h0 a1 KC KP "[J" (.ref aP)) (F_maxTimestampsSoFar_a1 : Fld Z h0 a1 KC KM "[J" (.ref aM)) (F_count_a1 : Fld Z h0 a1 KC "count" "I" (.int 1)) (F_first_a1 : Fld Z h0 a1 KC "first" "J" (.long 0)) (V_aB : Arv Z h0 aB kB .long (8 : Int32) [(.long b0), (.long b1), (.long b2), (.long b3), (.long b4), (.long b5), (.long b6), (.long b7)] (.long 0)) (V_aP : Arv Z h0 aP kP .long (8 : Int32) [(.long 10), (.long 0), (.long 0), (.long 0), (.long 0), (.long 0), (.long 0), (.long 0)] (.long 0)) (V_aM : Arv Z h0 aM kM .long (8 : Int32) [(.long x0), (.long x1), (.long x2), (.long x3), (.long x4), (.long x5), (.long x6), (.long x7)] (.long 0)) (E_aB : Exa Z h0 aB "[J") (E_aP : Exa Z h0 aP "[J") (E_aM : Exa Z h0 aM "[J") (g_a1 : n0 ≤ a1) (g_aB : n0 ≤ aB) (g_aP : n0 ≤ aP) (g_aM : n0 ≤ aM) (ne_a1_aB : a1 ≠ aB) (ne_a1_aP : a1 ≠ aP) (ne_a1_aM : a1 ≠ aM) (ne_aB_aP : aB ≠ aP) (ne_aB_aM : aB ≠ aM) (ne_aP_aM : aP ≠ aM) (hk : (fla_1 (q2 - (1 : Int64))) = (-1 : Int32)) :
    MetFree l (⟨KC, "dropBefore", "(J)V"⟩ : MethodName) (head1 (Jvm.Cond.code (⟨KC, "dropBefore", "(J)V"⟩ : MethodName) prog_126_method_11_code 4 none :: ws) R_dr10) (fun a U => a = #[(.ref a1), (.long q2)] ∧ Z.Warmed39 U.vm ∧ U.heap = h0) (fun _ _ _ _ _ => True) (fun _ U o U' => ∃ v L, o = .returned v ∧ Qdr10 Z a1 q2 aB aP aM kB kP kM b0 b1 b2 b3 b4 b5 b6 b7 x0 x1 x2 x3 x4 x5 x6 x7 h0 n0 v U'.heap L ∧ FrameEnd U o U' L R_dr10.cells R_dr10.slots) := by
  refine MetFree.of_bodySF (plainFor_of_name pn_55) hisR ?_
  intro p e s m args below meth c s₁ Bd hml0 hP hK
  obtain ⟨rfl, hZ, hh⟩ := hP
  have hx := Bd.exec
  have hby := Bd.bytes
  have hml : c.maxLocals = 4 := hml0
  have hown : s.vm.findClass KC = some m.cls := findClass_of_methodNamed Bd.named
  have hnm := (name_of_methodNamed Bd.named Bd.method).1
  have X0 : Stand p l e R_dr10 s m #[(.ref a1), (.long q2)] below meth c s₁ [] 0 0 := Stand.of_body Bd
  have e0 : s₁.heap = h0 := by rw [← hh, Bd.state]; rfl
  have N0 := Fr.nil n0
  have pre0 : ∀ t, Steps p.tables e below (s₁.setTop (mkF m 0 #[uR a1, uL q2, uS, uU] [])) t → Steps p.tables e below (s₁.setTop (entryFrame m #[(.ref a1), (.long q2)] 4)) t := fun t k => castTop (ef_dr10 m a1 q2) k
  obtain ⟨T1, X1, e1, st1⟩ := getF X0 hx hZ hown (host := "") (Or.inl (own_w hw (i := 13) rfl)) Via.refl e0 F_positions_a1 (g := (mkF m 2 #[uR a1, uL q2, uS, uU] [(.ref a1), (.ref a1)])) rfl rfl (hb hby d3_2)
  -- pc 8: BatchIndex.lastAtOrBefore by rmla_1
  obtain ⟨cq2, qc2, qc2'⟩ := E_a1.cell
  obtain ⟨_, _, ⟨T2, L2, ck2, cn2⟩, -, X2, ⟨Lc2, hQ2, l2, y2, z2⟩, st2⟩ := X1.privateBack hx (y := (⟨KC, "lastAtOrBefore", "([JJ)I"⟩ : MethodName)) hown (mvT hZ (own_w hw (i := 23) rfl)) (mvT hZ (own_w hw (i := 24) rfl)) (own_sel (y := (⟨KC, "lastAtOrBefore", "([JJ)I"⟩ : MethodName)) (mvT hZ (own_w hw (i := 1) rfl)) (Cond.privateMethod_at (mvP hZ (own_w hw (i := 25) rfl) (args := #[]))) (mvT hZ (own_w hw (i := 24) rfl)) (by decide)) (Cond.privateMethod_at (mvP hZ (own_w hw (i := 25) rfl) (args := #[]))) (mvT hZ (own_w hw (i := 26) rfl)) (by decide) (backOf (W := 0) (rmla_1 l Z a0 hw [] a1 aP (q2 - (1 : Int64)) kP (-1 : Int32) h0 n0 Z0 F_count_a1 V_aP hk) hZ (own_w hw (i := 26) rfl) (own_w hw (i := 2) rfl) (by decide) (by decide)) (g := (mkF m 8 #[uR a1, uL q2, uS, uU] [(.long (q2 - (1 : Int64))), (.ref aP), (.ref a1)])) rfl (by rw [hml]; rfl) (Steps.refl _) (a := a1) (by rw [e1]; exact qc2) qc2' (argsL := [(.ref aP), (.long (q2 - (1 : Int64)))]) (rest := []) (lenOf pd_239 rfl) rfl (by show 2 * 0 + _ ≤ _; exact Nat.le_of_eq rfl) (hb hby d3_8) (fun _ _ => ⟨rfl, e1, (by decide : 0 + 0 ≤ _), (by decide : 0 + 0 ≤ _)⟩)
  dsimp only [Pt.U, Pt.locs, Pt.cells, Pt.slots] at X2 l2 y2 z2 st2 hQ2
  subst y2 z2
  obtain ⟨rfl, N2q, e2⟩ := hQ2
  have N3 : Fr n0 L2 := by rw [l2]; exact Fr.app N0 N2q
  obtain ⟨T4, X4, e4, st4⟩ := getF X2 hx hZ hown (host := "") (Or.inl (own_w hw (i := 27) rfl)) Via.refl e2 F_count_a1 (g := (mkF m 16 #[uR a1, uL q2, uS, uI 0] [(.ref a1), (.ref a1)])) rfl rfl (hb hby d3_16)
  obtain ⟨T5, h5, X5, e5, W5, st5⟩ := putF X4 hx hZ hown (host := "") (Or.inl (own_w hw (i := 27) rfl)) Via.refl e4 F_count_a1 E_a1 (Or.inl (own_w hw (i := 28) rfl)) (own_w hw (i := 1) rfl) (ty := .int) (by decide) rfl rfl (g := (mkF m 21 #[uR a1, uL q2, uS, uI 0] [(.int 1), (.ref a1)])) rfl rfl (hb hby d3_21)
  have f6 := E_a1.wr W5
  have f7 := F_baseOffsets_a1.other W5 (Or.inr (sn_143 hw))
  have f8 := F_positions_a1.other W5 (Or.inr (sn_144 hw))
  have f9 := F_maxTimestampsSoFar_a1.other W5 (Or.inr (sn_145 hw))
  have f10 := F_count_a1.same W5
  have f11 := F_first_a1.other W5 (Or.inr (sn_146 hw))
  have f12 := V_aB.other W5 (Ne.symm ne_a1_aB)
  have f13 := V_aP.other W5 (Ne.symm ne_a1_aP)
  have f14 := V_aM.other W5 (Ne.symm ne_a1_aM)
  have f15 := E_aB.wr W5
  have f16 := E_aP.wr W5
  have f17 := E_aM.wr W5
  have K18 := (Keep.refl h0 [a1, aB, aP, aM]).wr W5 (Or.inl (List.mem_of_getElem? (i := 0) rfl))
  have zs19 : n0 ≤ h5.size := Nat.le_trans Z0 (Keep.of_wr W5).1
  have N20 := Fr.snoc X5 N3 g_a1
  obtain ⟨T21, X21, e21, st21⟩ := getF X5 hx hZ hown (host := "") (Or.inl (own_w hw (i := 39) rfl)) Via.refl e5 f11 (g := (mkF m 26 #[uR a1, uL q2, uS, uI 0] [(.ref a1), (.ref a1)])) rfl rfl (hb hby d3_26)
  obtain ⟨T22, h22, X22, e22, W22, st22⟩ := putF X21 hx hZ hown (host := "") (Or.inl (own_w hw (i := 39) rfl)) Via.refl e21 f11 f6 (Or.inl (own_w hw (i := 40) rfl)) (own_w hw (i := 1) rfl) (ty := .long) (by decide) rfl rfl (g := (mkF m 32 #[uR a1, uL q2, uS, uI 0] [(.long 0), (.ref a1)])) rfl rfl (hb hby d3_32)
  have f23 := f6.wr W22
  have f24 := f7.other W22 (Or.inr (sn_256 hw))
  have f25 := f8.other W22 (Or.inr (sn_257 hw))
  have f26 := f9.other W22 (Or.inr (sn_258 hw))
  have f27 := f10.other W22 (Or.inr (sn_259 hw))
  have f28 := f11.same W22
  have f29 := f12.other W22 (Ne.symm ne_a1_aB)
  have f30 := f13.other W22 (Ne.symm ne_a1_aP)
  have f31 := f14.other W22 (Ne.symm ne_a1_aM)
  have f32 := f15.wr W22
  have f33 := f16.wr W22
  have f34 := f17.wr W22
  have K35 := K18.wr W22 (Or.inl (List.mem_of_getElem? (i := 0) rfl))
  have zs36 : n0 ≤ h22.size := Nat.le_trans zs19 (Keep.of_wr W22).1
  have N37 := Fr.snoc X22 N20 g_a1
  obtain ⟨T38, X38, e38, st38⟩ := getF X22 hx hZ hown (host := "") (Or.inl (own_w hw (i := 11) rfl)) Via.refl e22 f24 (g := (mkF m 36 #[uR a1, uL q2, uS, uI 0] [(.ref a1)])) rfl rfl (hb hby d3_36)
  obtain ⟨T39, X39, e39, st39⟩ := getF X38 hx hZ hown (host := "") (Or.inl (own_w hw (i := 11) rfl)) Via.refl e38 f24 (g := (mkF m 41 #[uR a1, uL q2, uS, uI 0] [(.ref a1), (.int 0), (.ref aB)])) rfl rfl (hb hby d3_41)
  obtain ⟨T40, X40, e40, st40⟩ := getF X39 hx hZ hown (host := "") (Or.inl (own_w hw (i := 27) rfl)) Via.refl e39 f27 (g := (mkF m 46 #[uR a1, uL q2, uS, uI 0] [(.ref a1), (.int 0), (.ref aB), (.int 0), (.ref aB)])) rfl rfl (hb hby d3_46)
  obtain ⟨T41, h41, L41, X41, e41, N41, Kc41, V41, st41⟩ := cpA X40 hx hZ hown (own_w hw (i := 41) rfl) (own_w hw (i := 44) rfl) (own_w hw (i := 42) rfl) (own_w hw (i := 43) rfl) e40 f29 f29 (sp := (0 : Int32)) (dp := (0 : Int32)) (nn := (1 : Int32)) (us := [(.long b0)]) (Or.inl ⟨rfl, rfl⟩) (by decide) (by decide) (by decide) (by decide) (by decide) rfl (Nat.le_of_ble_eq_true rfl) N37 g_aB (g := (mkF m 49 #[uR a1, uL q2, uS, uI 0] [(.int 1), (.int 0), (.ref aB), (.int 0), (.ref aB)])) rfl (by rw [hml]; rfl) rfl (hb hby d3_49) (by decide) (W := 0) (by show 2 * 0 + _ ≤ _; exact Nat.le_of_eq rfl) (by decide)
  have Kd41 : Keep h22 h41 [aB] := Kc41
  have f42 := f23.keep Kd41
  have f43 := f24.keep Kd41 (ninS ne_a1_aB nin0)
  have f44 := f25.keep Kd41 (ninS ne_a1_aB nin0)
  have f45 := f26.keep Kd41 (ninS ne_a1_aB nin0)
  have f46 := f27.keep Kd41 (ninS ne_a1_aB nin0)
  have f47 := f28.keep Kd41 (ninS ne_a1_aB nin0)
  have f48 := f30.keep Kd41 (ninS (Ne.symm ne_aB_aP) nin0)
  have f49 := f31.keep Kd41 (ninS (Ne.symm ne_aB_aM) nin0)
  have f50 := f32.keep Kd41
  have f51 := f33.keep Kd41
  have f52 := f34.keep Kd41
  have zs53 : n0 ≤ h41.size := Nat.le_trans zs36 Kd41.1
  have K54 := K35.trans Kd41 (allS (Or.inl (List.mem_of_getElem? (i := 1) rfl)) all0)
  have Vx41 : Arv Z h41 aB kB .long (8 : Int32) [(.long b0), (.long b1), (.long b2), (.long b3), (.long b4), (.long b5), (.long b6), (.long b7)] (.long 0) := V41
  obtain ⟨T55, X55, e55, st55⟩ := getF X41 hx hZ hown (host := "") (Or.inl (own_w hw (i := 13) rfl)) Via.refl e41 f44 (g := (mkF m 53 #[uR a1, uL q2, uS, uI 0] [(.ref a1)])) rfl rfl (hb hby d3_53)
  obtain ⟨T56, X56, e56, st56⟩ := getF X55 hx hZ hown (host := "") (Or.inl (own_w hw (i := 13) rfl)) Via.refl e55 f44 (g := (mkF m 58 #[uR a1, uL q2, uS, uI 0] [(.ref a1), (.int 0), (.ref aP)])) rfl rfl (hb hby d3_58)
  obtain ⟨T57, X57, e57, st57⟩ := getF X56 hx hZ hown (host := "") (Or.inl (own_w hw (i := 27) rfl)) Via.refl e56 f46 (g := (mkF m 63 #[uR a1, uL q2, uS, uI 0] [(.ref a1), (.int 0), (.ref aP), (.int 0), (.ref aP)])) rfl rfl (hb hby d3_63)
  obtain ⟨T58, h58, L58, X58, e58, N58, Kc58, V58, st58⟩ := cpA X57 hx hZ hown (own_w hw (i := 41) rfl) (own_w hw (i := 44) rfl) (own_w hw (i := 42) rfl) (own_w hw (i := 43) rfl) e57 f48 f48 (sp := (0 : Int32)) (dp := (0 : Int32)) (nn := (1 : Int32)) (us := [(.long 10)]) (Or.inl ⟨rfl, rfl⟩) (by decide) (by decide) (by decide) (by decide) (by decide) rfl (Nat.le_of_ble_eq_true rfl) N41 g_aP (g := (mkF m 66 #[uR a1, uL q2, uS, uI 0] [(.int 1), (.int 0), (.ref aP), (.int 0), (.ref aP)])) rfl (by rw [hml]; rfl) rfl (hb hby d3_66) (by decide) (W := 0) (by show 2 * 0 + _ ≤ _; exact Nat.le_of_eq rfl) (by decide)
  have Kd58 : Keep h41 h58 [aP] := Kc58
  have f59 := f42.keep Kd58
  have f60 := f43.keep Kd58 (ninS ne_a1_aP nin0)
  have f61 := f44.keep Kd58 (ninS ne_a1_aP nin0)
  have f62 := f45.keep Kd58 (ninS ne_a1_aP nin0)
  have f63 := f46.keep Kd58 (ninS ne_a1_aP nin0)
  have f64 := f47.keep Kd58 (ninS ne_a1_aP nin0)
  have f65 := f49.keep Kd58 (ninS (Ne.symm ne_aP_aM) nin0)
  have f66 := f50.keep Kd58
  have f67 := f51.keep Kd58
  have f68 := f52.keep Kd58
  have f69 := Vx41.keep Kd58 (ninS ne_aB_aP nin0)
  have zs70 : n0 ≤ h58.size := Nat.le_trans zs53 Kd58.1
  have K71 := K54.trans Kd58 (allS (Or.inl (List.mem_of_getElem? (i := 2) rfl)) all0)
  have Vx58 : Arv Z h58 aP kP .long (8 : Int32) [(.long 10), (.long 0), (.long 0), (.long 0), (.long 0), (.long 0), (.long 0), (.long 0)] (.long 0) := V58
  obtain ⟨T72, X72, e72, st72⟩ := getF X58 hx hZ hown (host := "") (Or.inl (own_w hw (i := 15) rfl)) Via.refl e58 f62 (g := (mkF m 70 #[uR a1, uL q2, uS, uI 0] [(.ref a1)])) rfl rfl (hb hby d3_70)
  obtain ⟨T73, X73, e73, st73⟩ := getF X72 hx hZ hown (host := "") (Or.inl (own_w hw (i := 15) rfl)) Via.refl e72 f62 (g := (mkF m 75 #[uR a1, uL q2, uS, uI 0] [(.ref a1), (.int 0), (.ref aM)])) rfl rfl (hb hby d3_75)
  obtain ⟨T74, X74, e74, st74⟩ := getF X73 hx hZ hown (host := "") (Or.inl (own_w hw (i := 27) rfl)) Via.refl e73 f63 (g := (mkF m 80 #[uR a1, uL q2, uS, uI 0] [(.ref a1), (.int 0), (.ref aM), (.int 0), (.ref aM)])) rfl rfl (hb hby d3_80)
  obtain ⟨T75, h75, L75, X75, e75, N75, Kc75, V75, st75⟩ := cpA X74 hx hZ hown (own_w hw (i := 41) rfl) (own_w hw (i := 44) rfl) (own_w hw (i := 42) rfl) (own_w hw (i := 43) rfl) e74 f65 f65 (sp := (0 : Int32)) (dp := (0 : Int32)) (nn := (1 : Int32)) (us := [(.long x0)]) (Or.inl ⟨rfl, rfl⟩) (by decide) (by decide) (by decide) (by decide) (by decide) rfl (Nat.le_of_ble_eq_true rfl) N58 g_aM (g := (mkF m 83 #[uR a1, uL q2, uS, uI 0] [(.int 1), (.int 0), (.ref aM), (.int 0), (.ref aM)])) rfl (by rw [hml]; rfl) rfl (hb hby d3_83) (by decide) (W := 0) (by show 2 * 0 + _ ≤ _; exact Nat.le_of_eq rfl) (by decide)
  have Kd75 : Keep h58 h75 [aM] := Kc75
  have f76 := f59.keep Kd75
  have f77 := f60.keep Kd75 (ninS ne_a1_aM nin0)
  have f78 := f61.keep Kd75 (ninS ne_a1_aM nin0)
  have f79 := f62.keep Kd75 (ninS ne_a1_aM nin0)
  have f80 := f63.keep Kd75 (ninS ne_a1_aM nin0)
  have f81 := f64.keep Kd75 (ninS ne_a1_aM nin0)
  have f82 := f66.keep Kd75
  have f83 := f67.keep Kd75
  have f84 := f68.keep Kd75
  have f85 := f69.keep Kd75 (ninS ne_aB_aM nin0)
  have f86 := Vx58.keep Kd75 (ninS ne_aP_aM nin0)
  have zs87 : n0 ≤ h75.size := Nat.le_trans zs70 Kd75.1
  have K88 := K71.trans Kd75 (allS (Or.inl (List.mem_of_getElem? (i := 3) rfl)) all0)
  have Vx75 : Arv Z h75 aM kM .long (8 : Int32) [(.long x0), (.long x1), (.long x2), (.long x3), (.long x4), (.long x5), (.long x6), (.long x7)] (.long 0) := V75
  obtain ⟨T89, X89, e89, st89⟩ := getF X75 hx hZ hown (host := "") (Or.inl (own_w hw (i := 27) rfl)) Via.refl e75 f80 (g := (mkF m 88 #[uR a1, uL q2, uS, uI 0] [(.ref a1), (.ref a1)])) rfl rfl (hb hby d3_88)
  -- pc 95: Math.max by rmmx2
  obtain ⟨_, _, ⟨T90, L90, ck90, cn90⟩, -, X90, ⟨Lc90, hQ90, l90, y90, z90⟩, st90⟩ := Jvm.LawKit.callS X89 hx (y := (⟨"java/lang/Math", "max", "(II)I"⟩ : MethodName)) hown (mvT hZ (own_w hw (i := 45) rfl)) (mvT hZ (own_w hw (i := 46) rfl)) (mvT hZ (own_w hw (i := 47) rfl)) (mvT hZ (own_w hw (i := 48) rfl)) (by decide) (backOf (W := 1) (rmmx2 l Z a0 hw [] (2 : Int32) (8 : Int32) h75 n0 zs87 (by decide)) hZ (own_w hw (i := 48) rfl) (own_w hw (i := 47) rfl) (by decide) (by decide)) (g := (mkF m 95 #[uR a1, uL q2, uS, uI 0] [(.int 8), (.int 2), (.ref a1)])) rfl (by rw [hml]; rfl) (argsL := [(.int 2), (.int 8)]) (rest := [(.ref a1)]) (lenOf pd_47 rfl) rfl (by show 2 * 0 + _ ≤ _; exact Nat.le_of_eq rfl) (hb hby d3_95) (fun _ _ => ⟨rfl, e89, (by decide : 0 + 0 ≤ _), (by decide : 0 + 0 ≤ _)⟩)
  dsimp only [Pt.U, Pt.locs, Pt.cells, Pt.slots] at X90 l90 y90 z90 st90 hQ90
  subst y90 z90
  obtain ⟨rfl, N90q, e90⟩ := hQ90
  have N91 : Fr n0 L90 := by rw [l90]; exact Fr.app N75 N90q
  -- pc 98: BatchIndex.resize by rmrz8
  obtain ⟨cq92, qc92, qc92'⟩ := f76.cell
  obtain ⟨_, _, ⟨T92, L92, ck92, cn92⟩, -, X92, ⟨Lc92, hQ92, l92, y92, z92⟩, st92⟩ := X90.privateBack hx (y := (⟨KC, "resize", "(I)V"⟩ : MethodName)) hown (mvT hZ (own_w hw (i := 49) rfl)) (mvT hZ (own_w hw (i := 50) rfl)) (own_sel (y := (⟨KC, "resize", "(I)V"⟩ : MethodName)) (mvT hZ (own_w hw (i := 1) rfl)) (Cond.privateMethod_at (mvP hZ (own_w hw (i := 51) rfl) (args := #[]))) (mvT hZ (own_w hw (i := 50) rfl)) (by decide)) (Cond.privateMethod_at (mvP hZ (own_w hw (i := 51) rfl) (args := #[]))) (mvT hZ (own_w hw (i := 52) rfl)) (by decide) (backOf (W := 0) (rmrz8 l Z a0 hw [] a1 aB aP aM kB kP kM (1 : Int32) (0 : Int64) b0 b1 b2 b3 b4 b5 b6 b7 (10 : Int64) (0 : Int64) (0 : Int64) (0 : Int64) (0 : Int64) (0 : Int64) (0 : Int64) (0 : Int64) x0 x1 x2 x3 x4 x5 x6 x7 h75 n0 zs87 f76 f80 f81 f77 f78 f79 f85 f86 Vx75 f82 f83 f84 g_a1 ne_a1_aB ne_a1_aP ne_a1_aM ne_aB_aP ne_aB_aM ne_aP_aM) hZ (own_w hw (i := 52) rfl) (own_w hw (i := 2) rfl) (by decide) (by decide)) (g := (mkF m 98 #[uR a1, uL q2, uS, uI 0] [(.int 8), (.ref a1)])) rfl (by rw [hml]; rfl) (Steps.refl _) (a := a1) (by rw [e90]; exact qc92) qc92' (argsL := [(.int 8)]) (rest := []) (lenOf pd_114 rfl) rfl (by show 2 * 0 + _ ≤ _; exact Nat.le_of_eq rfl) (hb hby d3_98) (fun _ _ => ⟨rfl, e90, (by decide : 0 + 3 ≤ _), (by decide : 0 + 24 ≤ _)⟩)
  dsimp only [Pt.U, Pt.locs, Pt.cells, Pt.slots] at X92 l92 y92 z92 st92 hQ92
  subst y92 z92
  obtain ⟨n1_92, kn1_92, n2_92, kn2_92, n3_92, kn3_92, rfl, N92q, K92q, gq92_0, gq92_1, gq92_2, sq92_0, sq92_1, sq92_2, nq92_1_0, nq92_2_0, nq92_2_1, o92_0, o92_1, o92_2, o92_3, o92_4, o92_5, o92_6, o92_7, o92_8, o92_9, o92_10, o92_11⟩ := hQ92
  have N93 : Fr n0 L92 := by rw [l92]; exact Fr.app N91 N92q
  have sz_n1_92 : h0.size ≤ n1_92 := Nat.le_trans K88.1 sq92_0
  have sz_n2_92 : h0.size ≤ n2_92 := Nat.le_trans K88.1 sq92_1
  have sz_n3_92 : h0.size ≤ n3_92 := Nat.le_trans K88.1 sq92_2
  have K119 := K88.trans K92q (allS (Or.inl (List.mem_of_getElem? (i := 0) rfl)) all0)
  obtain ⟨fs, hr, hrun, hended, hW, hsame⟩ := X92.leave (v := none) (fun _ => rfl) Bd.notSynchronized
  refine ⟨_, _, pre0 _ ?_, hrun, hended, _, _, rfl, ?_, ⟨_, rfl⟩, hW, hsame.mono (by decide) (by decide)⟩
  · show Steps p.tables e below (s₁.setTop (mkF m 0 #[uR a1, uL q2, uS, uU] [])) _
    refine XS.aloadN X0.here hx rfl (hb hby d3_0) rfl rfl ?_
    refine XS.aloadN X0.here hx rfl (hb hby d3_1) rfl rfl ?_
    refine st1 _ ?_
    refine XS.lloadN X1.here hx rfl (hb hby d3_5) rfl ?_
    refine XS.lconst X1.here hx rfl (hb hby d3_6) ?_
    refine XS.lsub X1.here hx rfl (hb hby d3_7) rfl ?_
    refine st2.trans ?_
    refine XS.iconst X2.here hx rfl (hb hby d3_11) ?_
    refine XS.iadd X2.here hx rfl (hb hby d3_12) rfl ?_
    refine XS.istoreN X2.here hx rfl (hb hby d3_13) rfl (l' := #[uR a1, uL q2, uS, uI 0]) rfl ?_
    refine XS.aloadN X2.here hx rfl (hb hby d3_14) rfl rfl ?_
    refine XS.dup X2.here hx rfl (hb hby d3_15) rfl rfl ?_
    refine st4 _ ?_
    refine XS.iloadN X4.here hx rfl (hb hby d3_19) rfl ?_
    refine XS.isub X4.here hx rfl (hb hby d3_20) rfl ?_
    refine st5 _ ?_
    show Steps p.tables e below (T5.setTop (mkF m 24 #[uR a1, uL q2, uS, uI 0] [])) _
    refine XS.aloadN X5.here hx rfl (hb hby d3_24) rfl rfl ?_
    refine XS.dup X5.here hx rfl (hb hby d3_25) rfl rfl ?_
    refine st21 _ ?_
    refine XS.iloadN X21.here hx rfl (hb hby d3_29) rfl ?_
    refine XS.i2l X21.here hx rfl (hb hby d3_30) rfl ?_
    refine XS.ladd X21.here hx rfl (hb hby d3_31) rfl ?_
    refine st22 _ ?_
    refine XS.aloadN X22.here hx rfl (hb hby d3_35) rfl rfl ?_
    refine st38 _ ?_
    refine XS.iloadN X38.here hx rfl (hb hby d3_39) rfl ?_
    refine XS.aloadN X38.here hx rfl (hb hby d3_40) rfl rfl ?_
    refine st39 _ ?_
    refine XS.iconst X39.here hx rfl (hb hby d3_44) ?_
    refine XS.aloadN X39.here hx rfl (hb hby d3_45) rfl rfl ?_
    refine st40 _ ?_
    refine st41 _ ?_
    show Steps p.tables e below (T41.setTop (mkF m 52 #[uR a1, uL q2, uS, uI 0] [])) _
    refine XS.aloadN X41.here hx rfl (hb hby d3_52) rfl rfl ?_
    refine st55 _ ?_
    refine XS.iloadN X55.here hx rfl (hb hby d3_56) rfl ?_
    refine XS.aloadN X55.here hx rfl (hb hby d3_57) rfl rfl ?_
    refine st56 _ ?_
    refine XS.iconst X56.here hx rfl (hb hby d3_61) ?_
    refine XS.aloadN X56.here hx rfl (hb hby d3_62) rfl rfl ?_
    refine st57 _ ?_
    refine st58 _ ?_
    refine XS.aloadN X58.here hx rfl (hb hby d3_69) rfl rfl ?_
    refine st72 _ ?_
    refine XS.iloadN X72.here hx rfl (hb hby d3_73) rfl ?_
    refine XS.aloadN X72.here hx rfl (hb hby d3_74) rfl rfl ?_
    refine st73 _ ?_
    refine XS.iconst X73.here hx rfl (hb hby d3_78) ?_
    refine XS.aloadN X73.here hx rfl (hb hby d3_79) rfl rfl ?_
    show Steps p.tables e below (T73.setTop (mkF m 80 #[uR a1, uL q2, uS, uI 0] [(.ref a1), (.int 0), (.ref aM), (.int 0), (.ref aM)])) _
    refine st74 _ ?_
    refine st75 _ ?_
    refine XS.aloadN X75.here hx rfl (hb hby d3_86) rfl rfl ?_
    refine XS.aloadN X75.here hx rfl (hb hby d3_87) rfl rfl ?_
    refine st89 _ ?_
    refine XS.iconst X89.here hx rfl (hb hby d3_91) ?_
    refine XS.imul X89.here hx rfl (hb hby d3_92) rfl ?_
    refine XS.bipush X89.here hx rfl (hb hby d3_93) ?_
    refine st90 _ ?_
    refine st92.trans ?_
    exact X92.returnOut hx Bd.returns (hb hby d3_101) hr
  · show Qdr10 Z a1 q2 aB aP aM kB kP kM b0 b1 b2 b3 b4 b5 b6 b7 x0 x1 x2 x3 x4 x5 x6 x7 h0 n0 _ T92.heap _
    exact ⟨n1_92, kn1_92, n2_92, kn2_92, n3_92, kn3_92, rfl, N93, K119, gq92_0, gq92_1, gq92_2, sz_n1_92, sz_n2_92, sz_n3_92, nq92_1_0, nq92_2_0, nq92_2_1, o92_0, o92_4, o92_5, o92_3, o92_10⟩
theorem ef_dr11 (m : MethodId) (x0 : Addr) (x1 : Int64) : entryFrame m #[(.ref x0), (.long x1)] 4 = mkF m 0 #[.val (.ref x0), .val (.long x1), .second, .unset] [] := by first | (simp [entryFrame, mkF, argsToLocals, Value.category]; done) | rfl
abbrev R_dr11 : Room := { frames := 3, cells := 3, slots := 24, locals := 56 }
def Qdr11 (Z : State) (a1 : Addr) (q2 : Int64) (aB : Addr) (aP : Addr) (aM : Addr) (kB : ClassId) (kP : ClassId) (kM : ClassId) (b0 : Int64) (b1 : Int64) (b2 : Int64) (b3 : Int64) (b4 : Int64) (b5 : Int64) (b6 : Int64) (b7 : Int64) (x0 : Int64) (x1 : Int64) (x2 : Int64) (x3 : Int64) (x4 : Int64) (x5 : Int64) (x6 : Int64) (x7 : Int64) (h0 : Heap) (n0 : Nat) (v : Option Value) (h : Heap) (L : List Loc) : Prop := ∃ (n1 : Addr) (kn1 : ClassId) (n2 : Addr) (kn2 : ClassId) (n3 : Addr) (kn3 : ClassId), v = none ∧ Fr n0 L ∧ Keep h0 h [a1, aB, aP, aM] ∧ n0 ≤ n1 ∧ n0 ≤ n2 ∧ n0 ≤ n3 ∧ h0.size ≤ n1 ∧ h0.size ≤ n2 ∧ h0.size ≤ n3 ∧ n2 ≠ n1 ∧ n3 ≠ n1 ∧ n3 ≠ n2 ∧ Exa Z h a1 KC ∧ Fld Z h a1 KC "count" "I" (.int 0) ∧ Fld Z h a1 KC "first" "J" (.long 1) ∧ Fld Z h a1 KC KM "[J" (.ref n3) ∧ Arv Z h n3 kn3 .long (8 : Int32) [(.long x0), (.long x1), (.long x2), (.long x3), (.long x4), (.long x5), (.long x6), (.long x7)] (.long 0)
set_option maxRecDepth 65536 in
set_option maxHeartbeats 40000000 in
theorem rmdr11 (l : Launch) (Z : State) (a0 : Array Value) (hw : ∀ d ∈ tables_1, d.before a0 Z = true) (ws : List Jvm.Cond) (a1 : Addr) (q2 : Int64) (aB : Addr) (aP : Addr) (aM : Addr) (kB : ClassId) (kP : ClassId) (kM : ClassId) (b0 : Int64) (b1 : Int64) (b2 : Int64) (b3 : Int64) (b4 : Int64) (b5 : Int64) (b6 : Int64) (b7 : Int64) (x0 : Int64) (x1 : Int64) (x2 : Int64) (x3 : Int64) (x4 : Int64) (x5 : Int64) (x6 : Int64) (x7 : Int64) (h0 : Heap) (n0 : Nat) (Z0 : n0 ≤ h0.size) (E_a1 : Exa Z h0 a1 KC) (F_baseOffsets_a1 : Fld Z h0 a1 KC KB "[J" (.ref aB)) (F_positions_a1 : Fld Z h0 a1 KC KP "[J" (.ref aP)) (F_maxTimestampsSoFar_a1 : Fld Z h0 a1 KC KM "[J" (.ref aM)) (F_count_a1 : Fld Z h0 a1 KC "count" "I" (.int 1)) (F_first_a1 : Fld Z h0 a1 KC "first" "J" (.long 0)) (V_aB : Arv Z h0 aB kB .long (8 : Int32) [(.long b0), (.long b1), (.long b2), (.long b3), (.long b4), (.long b5), (.long b6), (.long b7)] (.long 0)) (V_aP : Arv Z h0 aP kP .long (8 : Int32) [(.long 10), (.long 0), (.long 0), (.long 0), (.long 0), (.long 0), (.long 0), (.long 0)] (.long 0)) (V_aM : Arv Z h0 aM kM .long (8 : Int32) [(.long x0), (.long x1), (.long x2), (.long x3), (.long x4), (.long x5), (.long x6), (.long x7)] (.long 0)) (E_aB : Exa Z h0 aB "[J") (E_aP : Exa Z h0 aP "[J") (E_aM : Exa Z h0 aM "[J") (g_a1 : n0 ≤ a1) (g_aB : n0 ≤ aB) (g_aP : n0 ≤ aP) (g_aM : n0 ≤ aM) (ne_a1_aB : a1 ≠ aB) (ne_a1_aP : a1 ≠ aP) (ne_a1_aM : a1 ≠ aM) (ne_aB_aP : aB ≠ aP) (ne_aB_aM : aB ≠ aM) (ne_aP_aM : aP ≠ aM) (hk : (fla_1 (q2 - (1 : Int64))) = (0 : Int32)) :
    MetFree l (⟨KC, "dropBefore", "(J)V"⟩ : MethodName) (head1 (Jvm.Cond.code (⟨KC, "dropBefore", "(J)V"⟩ : MethodName) prog_126_method_11_code 4 none :: ws) R_dr11) (fun a U => a = #[(.ref a1), (.long q2)] ∧ Z.Warmed39 U.vm ∧ U.heap = h0) (fun _ _ _ _ _ => True) (fun _ U o U' => ∃ v L, o = .returned v ∧ Qdr11 Z a1 q2 aB aP aM kB kP kM b0 b1 b2 b3 b4 b5 b6 b7 x0 x1 x2 x3 x4 x5 x6 x7 h0 n0 v U'.heap L ∧ FrameEnd U o U' L R_dr11.cells R_dr11.slots) := by
  refine MetFree.of_bodySF (plainFor_of_name pn_55) hisR ?_
  intro p e s m args below meth c s₁ Bd hml0 hP hK
  obtain ⟨rfl, hZ, hh⟩ := hP
  have hx := Bd.exec
  have hby := Bd.bytes
  have hml : c.maxLocals = 4 := hml0
  have hown : s.vm.findClass KC = some m.cls := findClass_of_methodNamed Bd.named
  have hnm := (name_of_methodNamed Bd.named Bd.method).1
  have X0 : Stand p l e R_dr11 s m #[(.ref a1), (.long q2)] below meth c s₁ [] 0 0 := Stand.of_body Bd
  have e0 : s₁.heap = h0 := by rw [← hh, Bd.state]; rfl
  have N0 := Fr.nil n0
  have pre0 : ∀ t, Steps p.tables e below (s₁.setTop (mkF m 0 #[uR a1, uL q2, uS, uU] [])) t → Steps p.tables e below (s₁.setTop (entryFrame m #[(.ref a1), (.long q2)] 4)) t := fun t k => castTop (ef_dr11 m a1 q2) k
  obtain ⟨T1, X1, e1, st1⟩ := getF X0 hx hZ hown (host := "") (Or.inl (own_w hw (i := 13) rfl)) Via.refl e0 F_positions_a1 (g := (mkF m 2 #[uR a1, uL q2, uS, uU] [(.ref a1), (.ref a1)])) rfl rfl (hb hby d3_2)
  -- pc 8: BatchIndex.lastAtOrBefore by rmla_1
  obtain ⟨cq2, qc2, qc2'⟩ := E_a1.cell
  obtain ⟨_, _, ⟨T2, L2, ck2, cn2⟩, -, X2, ⟨Lc2, hQ2, l2, y2, z2⟩, st2⟩ := X1.privateBack hx (y := (⟨KC, "lastAtOrBefore", "([JJ)I"⟩ : MethodName)) hown (mvT hZ (own_w hw (i := 23) rfl)) (mvT hZ (own_w hw (i := 24) rfl)) (own_sel (y := (⟨KC, "lastAtOrBefore", "([JJ)I"⟩ : MethodName)) (mvT hZ (own_w hw (i := 1) rfl)) (Cond.privateMethod_at (mvP hZ (own_w hw (i := 25) rfl) (args := #[]))) (mvT hZ (own_w hw (i := 24) rfl)) (by decide)) (Cond.privateMethod_at (mvP hZ (own_w hw (i := 25) rfl) (args := #[]))) (mvT hZ (own_w hw (i := 26) rfl)) (by decide) (backOf (W := 0) (rmla_1 l Z a0 hw [] a1 aP (q2 - (1 : Int64)) kP (0 : Int32) h0 n0 Z0 F_count_a1 V_aP hk) hZ (own_w hw (i := 26) rfl) (own_w hw (i := 2) rfl) (by decide) (by decide)) (g := (mkF m 8 #[uR a1, uL q2, uS, uU] [(.long (q2 - (1 : Int64))), (.ref aP), (.ref a1)])) rfl (by rw [hml]; rfl) (Steps.refl _) (a := a1) (by rw [e1]; exact qc2) qc2' (argsL := [(.ref aP), (.long (q2 - (1 : Int64)))]) (rest := []) (lenOf pd_239 rfl) rfl (by show 2 * 0 + _ ≤ _; exact Nat.le_of_eq rfl) (hb hby d3_8) (fun _ _ => ⟨rfl, e1, (by decide : 0 + 0 ≤ _), (by decide : 0 + 0 ≤ _)⟩)
  dsimp only [Pt.U, Pt.locs, Pt.cells, Pt.slots] at X2 l2 y2 z2 st2 hQ2
  subst y2 z2
  obtain ⟨rfl, N2q, e2⟩ := hQ2
  have N3 : Fr n0 L2 := by rw [l2]; exact Fr.app N0 N2q
  obtain ⟨T4, X4, e4, st4⟩ := getF X2 hx hZ hown (host := "") (Or.inl (own_w hw (i := 27) rfl)) Via.refl e2 F_count_a1 (g := (mkF m 16 #[uR a1, uL q2, uS, uI 1] [(.ref a1), (.ref a1)])) rfl rfl (hb hby d3_16)
  obtain ⟨T5, h5, X5, e5, W5, st5⟩ := putF X4 hx hZ hown (host := "") (Or.inl (own_w hw (i := 27) rfl)) Via.refl e4 F_count_a1 E_a1 (Or.inl (own_w hw (i := 28) rfl)) (own_w hw (i := 1) rfl) (ty := .int) (by decide) rfl rfl (g := (mkF m 21 #[uR a1, uL q2, uS, uI 1] [(.int 0), (.ref a1)])) rfl rfl (hb hby d3_21)
  have f6 := E_a1.wr W5
  have f7 := F_baseOffsets_a1.other W5 (Or.inr (sn_143 hw))
  have f8 := F_positions_a1.other W5 (Or.inr (sn_144 hw))
  have f9 := F_maxTimestampsSoFar_a1.other W5 (Or.inr (sn_145 hw))
  have f10 := F_count_a1.same W5
  have f11 := F_first_a1.other W5 (Or.inr (sn_146 hw))
  have f12 := V_aB.other W5 (Ne.symm ne_a1_aB)
  have f13 := V_aP.other W5 (Ne.symm ne_a1_aP)
  have f14 := V_aM.other W5 (Ne.symm ne_a1_aM)
  have f15 := E_aB.wr W5
  have f16 := E_aP.wr W5
  have f17 := E_aM.wr W5
  have K18 := (Keep.refl h0 [a1, aB, aP, aM]).wr W5 (Or.inl (List.mem_of_getElem? (i := 0) rfl))
  have zs19 : n0 ≤ h5.size := Nat.le_trans Z0 (Keep.of_wr W5).1
  have N20 := Fr.snoc X5 N3 g_a1
  obtain ⟨T21, X21, e21, st21⟩ := getF X5 hx hZ hown (host := "") (Or.inl (own_w hw (i := 39) rfl)) Via.refl e5 f11 (g := (mkF m 26 #[uR a1, uL q2, uS, uI 1] [(.ref a1), (.ref a1)])) rfl rfl (hb hby d3_26)
  obtain ⟨T22, h22, X22, e22, W22, st22⟩ := putF X21 hx hZ hown (host := "") (Or.inl (own_w hw (i := 39) rfl)) Via.refl e21 f11 f6 (Or.inl (own_w hw (i := 40) rfl)) (own_w hw (i := 1) rfl) (ty := .long) (by decide) rfl rfl (g := (mkF m 32 #[uR a1, uL q2, uS, uI 1] [(.long 1), (.ref a1)])) rfl rfl (hb hby d3_32)
  have f23 := f6.wr W22
  have f24 := f7.other W22 (Or.inr (sn_256 hw))
  have f25 := f8.other W22 (Or.inr (sn_257 hw))
  have f26 := f9.other W22 (Or.inr (sn_258 hw))
  have f27 := f10.other W22 (Or.inr (sn_259 hw))
  have f28 := f11.same W22
  have f29 := f12.other W22 (Ne.symm ne_a1_aB)
  have f30 := f13.other W22 (Ne.symm ne_a1_aP)
  have f31 := f14.other W22 (Ne.symm ne_a1_aM)
  have f32 := f15.wr W22
  have f33 := f16.wr W22
  have f34 := f17.wr W22
  have K35 := K18.wr W22 (Or.inl (List.mem_of_getElem? (i := 0) rfl))
  have zs36 : n0 ≤ h22.size := Nat.le_trans zs19 (Keep.of_wr W22).1
  have N37 := Fr.snoc X22 N20 g_a1
  obtain ⟨T38, X38, e38, st38⟩ := getF X22 hx hZ hown (host := "") (Or.inl (own_w hw (i := 11) rfl)) Via.refl e22 f24 (g := (mkF m 36 #[uR a1, uL q2, uS, uI 1] [(.ref a1)])) rfl rfl (hb hby d3_36)
  obtain ⟨T39, X39, e39, st39⟩ := getF X38 hx hZ hown (host := "") (Or.inl (own_w hw (i := 11) rfl)) Via.refl e38 f24 (g := (mkF m 41 #[uR a1, uL q2, uS, uI 1] [(.ref a1), (.int 1), (.ref aB)])) rfl rfl (hb hby d3_41)
  obtain ⟨T40, X40, e40, st40⟩ := getF X39 hx hZ hown (host := "") (Or.inl (own_w hw (i := 27) rfl)) Via.refl e39 f27 (g := (mkF m 46 #[uR a1, uL q2, uS, uI 1] [(.ref a1), (.int 0), (.ref aB), (.int 1), (.ref aB)])) rfl rfl (hb hby d3_46)
  obtain ⟨T41, h41, L41, X41, e41, N41, Kc41, V41, st41⟩ := cpA X40 hx hZ hown (own_w hw (i := 41) rfl) (own_w hw (i := 44) rfl) (own_w hw (i := 42) rfl) (own_w hw (i := 43) rfl) e40 f29 f29 (sp := (1 : Int32)) (dp := (0 : Int32)) (nn := (0 : Int32)) (us := []) (Or.inl ⟨rfl, rfl⟩) (by decide) (by decide) (by decide) (by decide) (by decide) rfl (Nat.le_of_ble_eq_true rfl) N37 g_aB (g := (mkF m 49 #[uR a1, uL q2, uS, uI 1] [(.int 0), (.int 0), (.ref aB), (.int 1), (.ref aB)])) rfl (by rw [hml]; rfl) rfl (hb hby d3_49) (by decide) (W := 0) (by show 2 * 0 + _ ≤ _; exact Nat.le_of_eq rfl) (by decide)
  have Kd41 : Keep h22 h41 [aB] := Kc41
  have f42 := f23.keep Kd41
  have f43 := f24.keep Kd41 (ninS ne_a1_aB nin0)
  have f44 := f25.keep Kd41 (ninS ne_a1_aB nin0)
  have f45 := f26.keep Kd41 (ninS ne_a1_aB nin0)
  have f46 := f27.keep Kd41 (ninS ne_a1_aB nin0)
  have f47 := f28.keep Kd41 (ninS ne_a1_aB nin0)
  have f48 := f30.keep Kd41 (ninS (Ne.symm ne_aB_aP) nin0)
  have f49 := f31.keep Kd41 (ninS (Ne.symm ne_aB_aM) nin0)
  have f50 := f32.keep Kd41
  have f51 := f33.keep Kd41
  have f52 := f34.keep Kd41
  have zs53 : n0 ≤ h41.size := Nat.le_trans zs36 Kd41.1
  have K54 := K35.trans Kd41 (allS (Or.inl (List.mem_of_getElem? (i := 1) rfl)) all0)
  have Vx41 : Arv Z h41 aB kB .long (8 : Int32) [(.long b0), (.long b1), (.long b2), (.long b3), (.long b4), (.long b5), (.long b6), (.long b7)] (.long 0) := V41
  obtain ⟨T55, X55, e55, st55⟩ := getF X41 hx hZ hown (host := "") (Or.inl (own_w hw (i := 13) rfl)) Via.refl e41 f44 (g := (mkF m 53 #[uR a1, uL q2, uS, uI 1] [(.ref a1)])) rfl rfl (hb hby d3_53)
  obtain ⟨T56, X56, e56, st56⟩ := getF X55 hx hZ hown (host := "") (Or.inl (own_w hw (i := 13) rfl)) Via.refl e55 f44 (g := (mkF m 58 #[uR a1, uL q2, uS, uI 1] [(.ref a1), (.int 1), (.ref aP)])) rfl rfl (hb hby d3_58)
  obtain ⟨T57, X57, e57, st57⟩ := getF X56 hx hZ hown (host := "") (Or.inl (own_w hw (i := 27) rfl)) Via.refl e56 f46 (g := (mkF m 63 #[uR a1, uL q2, uS, uI 1] [(.ref a1), (.int 0), (.ref aP), (.int 1), (.ref aP)])) rfl rfl (hb hby d3_63)
  obtain ⟨T58, h58, L58, X58, e58, N58, Kc58, V58, st58⟩ := cpA X57 hx hZ hown (own_w hw (i := 41) rfl) (own_w hw (i := 44) rfl) (own_w hw (i := 42) rfl) (own_w hw (i := 43) rfl) e57 f48 f48 (sp := (1 : Int32)) (dp := (0 : Int32)) (nn := (0 : Int32)) (us := []) (Or.inl ⟨rfl, rfl⟩) (by decide) (by decide) (by decide) (by decide) (by decide) rfl (Nat.le_of_ble_eq_true rfl) N41 g_aP (g := (mkF m 66 #[uR a1, uL q2, uS, uI 1] [(.int 0), (.int 0), (.ref aP), (.int 1), (.ref aP)])) rfl (by rw [hml]; rfl) rfl (hb hby d3_66) (by decide) (W := 0) (by show 2 * 0 + _ ≤ _; exact Nat.le_of_eq rfl) (by decide)
  have Kd58 : Keep h41 h58 [aP] := Kc58
  have f59 := f42.keep Kd58
  have f60 := f43.keep Kd58 (ninS ne_a1_aP nin0)
  have f61 := f44.keep Kd58 (ninS ne_a1_aP nin0)
  have f62 := f45.keep Kd58 (ninS ne_a1_aP nin0)
  have f63 := f46.keep Kd58 (ninS ne_a1_aP nin0)
  have f64 := f47.keep Kd58 (ninS ne_a1_aP nin0)
  have f65 := f49.keep Kd58 (ninS (Ne.symm ne_aP_aM) nin0)
  have f66 := f50.keep Kd58
  have f67 := f51.keep Kd58
  have f68 := f52.keep Kd58
  have f69 := Vx41.keep Kd58 (ninS ne_aB_aP nin0)
  have zs70 : n0 ≤ h58.size := Nat.le_trans zs53 Kd58.1
  have K71 := K54.trans Kd58 (allS (Or.inl (List.mem_of_getElem? (i := 2) rfl)) all0)
  have Vx58 : Arv Z h58 aP kP .long (8 : Int32) [(.long 10), (.long 0), (.long 0), (.long 0), (.long 0), (.long 0), (.long 0), (.long 0)] (.long 0) := V58
  obtain ⟨T72, X72, e72, st72⟩ := getF X58 hx hZ hown (host := "") (Or.inl (own_w hw (i := 15) rfl)) Via.refl e58 f62 (g := (mkF m 70 #[uR a1, uL q2, uS, uI 1] [(.ref a1)])) rfl rfl (hb hby d3_70)
  obtain ⟨T73, X73, e73, st73⟩ := getF X72 hx hZ hown (host := "") (Or.inl (own_w hw (i := 15) rfl)) Via.refl e72 f62 (g := (mkF m 75 #[uR a1, uL q2, uS, uI 1] [(.ref a1), (.int 1), (.ref aM)])) rfl rfl (hb hby d3_75)
  obtain ⟨T74, X74, e74, st74⟩ := getF X73 hx hZ hown (host := "") (Or.inl (own_w hw (i := 27) rfl)) Via.refl e73 f63 (g := (mkF m 80 #[uR a1, uL q2, uS, uI 1] [(.ref a1), (.int 0), (.ref aM), (.int 1), (.ref aM)])) rfl rfl (hb hby d3_80)
  obtain ⟨T75, h75, L75, X75, e75, N75, Kc75, V75, st75⟩ := cpA X74 hx hZ hown (own_w hw (i := 41) rfl) (own_w hw (i := 44) rfl) (own_w hw (i := 42) rfl) (own_w hw (i := 43) rfl) e74 f65 f65 (sp := (1 : Int32)) (dp := (0 : Int32)) (nn := (0 : Int32)) (us := []) (Or.inl ⟨rfl, rfl⟩) (by decide) (by decide) (by decide) (by decide) (by decide) rfl (Nat.le_of_ble_eq_true rfl) N58 g_aM (g := (mkF m 83 #[uR a1, uL q2, uS, uI 1] [(.int 0), (.int 0), (.ref aM), (.int 1), (.ref aM)])) rfl (by rw [hml]; rfl) rfl (hb hby d3_83) (by decide) (W := 0) (by show 2 * 0 + _ ≤ _; exact Nat.le_of_eq rfl) (by decide)
  have Kd75 : Keep h58 h75 [aM] := Kc75
  have f76 := f59.keep Kd75
  have f77 := f60.keep Kd75 (ninS ne_a1_aM nin0)
  have f78 := f61.keep Kd75 (ninS ne_a1_aM nin0)
  have f79 := f62.keep Kd75 (ninS ne_a1_aM nin0)
  have f80 := f63.keep Kd75 (ninS ne_a1_aM nin0)
  have f81 := f64.keep Kd75 (ninS ne_a1_aM nin0)
  have f82 := f66.keep Kd75
  have f83 := f67.keep Kd75
  have f84 := f68.keep Kd75
  have f85 := f69.keep Kd75 (ninS ne_aB_aM nin0)
  have f86 := Vx58.keep Kd75 (ninS ne_aP_aM nin0)
  have zs87 : n0 ≤ h75.size := Nat.le_trans zs70 Kd75.1
  have K88 := K71.trans Kd75 (allS (Or.inl (List.mem_of_getElem? (i := 3) rfl)) all0)
  have Vx75 : Arv Z h75 aM kM .long (8 : Int32) [(.long x0), (.long x1), (.long x2), (.long x3), (.long x4), (.long x5), (.long x6), (.long x7)] (.long 0) := V75
  obtain ⟨T89, X89, e89, st89⟩ := getF X75 hx hZ hown (host := "") (Or.inl (own_w hw (i := 27) rfl)) Via.refl e75 f80 (g := (mkF m 88 #[uR a1, uL q2, uS, uI 1] [(.ref a1), (.ref a1)])) rfl rfl (hb hby d3_88)
  -- pc 95: Math.max by rmmx2
  obtain ⟨_, _, ⟨T90, L90, ck90, cn90⟩, -, X90, ⟨Lc90, hQ90, l90, y90, z90⟩, st90⟩ := Jvm.LawKit.callS X89 hx (y := (⟨"java/lang/Math", "max", "(II)I"⟩ : MethodName)) hown (mvT hZ (own_w hw (i := 45) rfl)) (mvT hZ (own_w hw (i := 46) rfl)) (mvT hZ (own_w hw (i := 47) rfl)) (mvT hZ (own_w hw (i := 48) rfl)) (by decide) (backOf (W := 1) (rmmx2 l Z a0 hw [] (0 : Int32) (8 : Int32) h75 n0 zs87 (by decide)) hZ (own_w hw (i := 48) rfl) (own_w hw (i := 47) rfl) (by decide) (by decide)) (g := (mkF m 95 #[uR a1, uL q2, uS, uI 1] [(.int 8), (.int 0), (.ref a1)])) rfl (by rw [hml]; rfl) (argsL := [(.int 0), (.int 8)]) (rest := [(.ref a1)]) (lenOf pd_47 rfl) rfl (by show 2 * 0 + _ ≤ _; exact Nat.le_of_eq rfl) (hb hby d3_95) (fun _ _ => ⟨rfl, e89, (by decide : 0 + 0 ≤ _), (by decide : 0 + 0 ≤ _)⟩)
  dsimp only [Pt.U, Pt.locs, Pt.cells, Pt.slots] at X90 l90 y90 z90 st90 hQ90
  subst y90 z90
  obtain ⟨rfl, N90q, e90⟩ := hQ90
  have N91 : Fr n0 L90 := by rw [l90]; exact Fr.app N75 N90q
  -- pc 98: BatchIndex.resize by rmrz8
  obtain ⟨cq92, qc92, qc92'⟩ := f76.cell
  obtain ⟨_, _, ⟨T92, L92, ck92, cn92⟩, -, X92, ⟨Lc92, hQ92, l92, y92, z92⟩, st92⟩ := X90.privateBack hx (y := (⟨KC, "resize", "(I)V"⟩ : MethodName)) hown (mvT hZ (own_w hw (i := 49) rfl)) (mvT hZ (own_w hw (i := 50) rfl)) (own_sel (y := (⟨KC, "resize", "(I)V"⟩ : MethodName)) (mvT hZ (own_w hw (i := 1) rfl)) (Cond.privateMethod_at (mvP hZ (own_w hw (i := 51) rfl) (args := #[]))) (mvT hZ (own_w hw (i := 50) rfl)) (by decide)) (Cond.privateMethod_at (mvP hZ (own_w hw (i := 51) rfl) (args := #[]))) (mvT hZ (own_w hw (i := 52) rfl)) (by decide) (backOf (W := 0) (rmrz8 l Z a0 hw [] a1 aB aP aM kB kP kM (0 : Int32) (1 : Int64) b0 b1 b2 b3 b4 b5 b6 b7 (10 : Int64) (0 : Int64) (0 : Int64) (0 : Int64) (0 : Int64) (0 : Int64) (0 : Int64) (0 : Int64) x0 x1 x2 x3 x4 x5 x6 x7 h75 n0 zs87 f76 f80 f81 f77 f78 f79 f85 f86 Vx75 f82 f83 f84 g_a1 ne_a1_aB ne_a1_aP ne_a1_aM ne_aB_aP ne_aB_aM ne_aP_aM) hZ (own_w hw (i := 52) rfl) (own_w hw (i := 2) rfl) (by decide) (by decide)) (g := (mkF m 98 #[uR a1, uL q2, uS, uI 1] [(.int 8), (.ref a1)])) rfl (by rw [hml]; rfl) (Steps.refl _) (a := a1) (by rw [e90]; exact qc92) qc92' (argsL := [(.int 8)]) (rest := []) (lenOf pd_114 rfl) rfl (by show 2 * 0 + _ ≤ _; exact Nat.le_of_eq rfl) (hb hby d3_98) (fun _ _ => ⟨rfl, e90, (by decide : 0 + 3 ≤ _), (by decide : 0 + 24 ≤ _)⟩)
  dsimp only [Pt.U, Pt.locs, Pt.cells, Pt.slots] at X92 l92 y92 z92 st92 hQ92
  subst y92 z92
  obtain ⟨n1_92, kn1_92, n2_92, kn2_92, n3_92, kn3_92, rfl, N92q, K92q, gq92_0, gq92_1, gq92_2, sq92_0, sq92_1, sq92_2, nq92_1_0, nq92_2_0, nq92_2_1, o92_0, o92_1, o92_2, o92_3, o92_4, o92_5, o92_6, o92_7, o92_8, o92_9, o92_10, o92_11⟩ := hQ92
  have N93 : Fr n0 L92 := by rw [l92]; exact Fr.app N91 N92q
  have sz_n1_92 : h0.size ≤ n1_92 := Nat.le_trans K88.1 sq92_0
  have sz_n2_92 : h0.size ≤ n2_92 := Nat.le_trans K88.1 sq92_1
  have sz_n3_92 : h0.size ≤ n3_92 := Nat.le_trans K88.1 sq92_2
  have K119 := K88.trans K92q (allS (Or.inl (List.mem_of_getElem? (i := 0) rfl)) all0)
  obtain ⟨fs, hr, hrun, hended, hW, hsame⟩ := X92.leave (v := none) (fun _ => rfl) Bd.notSynchronized
  refine ⟨_, _, pre0 _ ?_, hrun, hended, _, _, rfl, ?_, ⟨_, rfl⟩, hW, hsame.mono (by decide) (by decide)⟩
  · show Steps p.tables e below (s₁.setTop (mkF m 0 #[uR a1, uL q2, uS, uU] [])) _
    refine XS.aloadN X0.here hx rfl (hb hby d3_0) rfl rfl ?_
    refine XS.aloadN X0.here hx rfl (hb hby d3_1) rfl rfl ?_
    refine st1 _ ?_
    refine XS.lloadN X1.here hx rfl (hb hby d3_5) rfl ?_
    refine XS.lconst X1.here hx rfl (hb hby d3_6) ?_
    refine XS.lsub X1.here hx rfl (hb hby d3_7) rfl ?_
    refine st2.trans ?_
    refine XS.iconst X2.here hx rfl (hb hby d3_11) ?_
    refine XS.iadd X2.here hx rfl (hb hby d3_12) rfl ?_
    refine XS.istoreN X2.here hx rfl (hb hby d3_13) rfl (l' := #[uR a1, uL q2, uS, uI 1]) rfl ?_
    refine XS.aloadN X2.here hx rfl (hb hby d3_14) rfl rfl ?_
    refine XS.dup X2.here hx rfl (hb hby d3_15) rfl rfl ?_
    refine st4 _ ?_
    refine XS.iloadN X4.here hx rfl (hb hby d3_19) rfl ?_
    refine XS.isub X4.here hx rfl (hb hby d3_20) rfl ?_
    refine st5 _ ?_
    show Steps p.tables e below (T5.setTop (mkF m 24 #[uR a1, uL q2, uS, uI 1] [])) _
    refine XS.aloadN X5.here hx rfl (hb hby d3_24) rfl rfl ?_
    refine XS.dup X5.here hx rfl (hb hby d3_25) rfl rfl ?_
    refine st21 _ ?_
    refine XS.iloadN X21.here hx rfl (hb hby d3_29) rfl ?_
    refine XS.i2l X21.here hx rfl (hb hby d3_30) rfl ?_
    refine XS.ladd X21.here hx rfl (hb hby d3_31) rfl ?_
    refine st22 _ ?_
    refine XS.aloadN X22.here hx rfl (hb hby d3_35) rfl rfl ?_
    refine st38 _ ?_
    refine XS.iloadN X38.here hx rfl (hb hby d3_39) rfl ?_
    refine XS.aloadN X38.here hx rfl (hb hby d3_40) rfl rfl ?_
    refine st39 _ ?_
    refine XS.iconst X39.here hx rfl (hb hby d3_44) ?_
    refine XS.aloadN X39.here hx rfl (hb hby d3_45) rfl rfl ?_
    refine st40 _ ?_
    refine st41 _ ?_
    show Steps p.tables e below (T41.setTop (mkF m 52 #[uR a1, uL q2, uS, uI 1] [])) _
    refine XS.aloadN X41.here hx rfl (hb hby d3_52) rfl rfl ?_
    refine st55 _ ?_
    refine XS.iloadN X55.here hx rfl (hb hby d3_56) rfl ?_
    refine XS.aloadN X55.here hx rfl (hb hby d3_57) rfl rfl ?_
    refine st56 _ ?_
    refine XS.iconst X56.here hx rfl (hb hby d3_61) ?_
    refine XS.aloadN X56.here hx rfl (hb hby d3_62) rfl rfl ?_
    refine st57 _ ?_
    refine st58 _ ?_
    refine XS.aloadN X58.here hx rfl (hb hby d3_69) rfl rfl ?_
    refine st72 _ ?_
    refine XS.iloadN X72.here hx rfl (hb hby d3_73) rfl ?_
    refine XS.aloadN X72.here hx rfl (hb hby d3_74) rfl rfl ?_
    refine st73 _ ?_
    refine XS.iconst X73.here hx rfl (hb hby d3_78) ?_
    refine XS.aloadN X73.here hx rfl (hb hby d3_79) rfl rfl ?_
    show Steps p.tables e below (T73.setTop (mkF m 80 #[uR a1, uL q2, uS, uI 1] [(.ref a1), (.int 0), (.ref aM), (.int 1), (.ref aM)])) _
    refine st74 _ ?_
    refine st75 _ ?_
    refine XS.aloadN X75.here hx rfl (hb hby d3_86) rfl rfl ?_
    refine XS.aloadN X75.here hx rfl (hb hby d3_87) rfl rfl ?_
    refine st89 _ ?_
    refine XS.iconst X89.here hx rfl (hb hby d3_91) ?_
    refine XS.imul X89.here hx rfl (hb hby d3_92) rfl ?_
    refine XS.bipush X89.here hx rfl (hb hby d3_93) ?_
    refine st90 _ ?_
    refine st92.trans ?_
    exact X92.returnOut hx Bd.returns (hb hby d3_101) hr
  · show Qdr11 Z a1 q2 aB aP aM kB kP kM b0 b1 b2 b3 b4 b5 b6 b7 x0 x1 x2 x3 x4 x5 x6 x7 h0 n0 _ T92.heap _
    exact ⟨n1_92, kn1_92, n2_92, kn2_92, n3_92, kn3_92, rfl, N93, K119, gq92_0, gq92_1, gq92_2, sz_n1_92, sz_n2_92, sz_n3_92, nq92_1_0, nq92_2_0, nq92_2_1, o92_0, o92_4, o92_5, o92_3, o92_10⟩
theorem ef_dr20 (m : MethodId) (x0 : Addr) (x1 : Int64) : entryFrame m #[(.ref x0), (.long x1)] 4 = mkF m 0 #[.val (.ref x0), .val (.long x1), .second, .unset] [] := by first | (simp [entryFrame, mkF, argsToLocals, Value.category]; done) | rfl
abbrev R_dr20 : Room := { frames := 3, cells := 3, slots := 24, locals := 56 }
def Qdr20 (Z : State) (a1 : Addr) (q2 : Int64) (aB : Addr) (aP : Addr) (aM : Addr) (kB : ClassId) (kP : ClassId) (kM : ClassId) (b0 : Int64) (b1 : Int64) (b2 : Int64) (b3 : Int64) (b4 : Int64) (b5 : Int64) (b6 : Int64) (b7 : Int64) (x0 : Int64) (x1 : Int64) (x2 : Int64) (x3 : Int64) (x4 : Int64) (x5 : Int64) (x6 : Int64) (x7 : Int64) (h0 : Heap) (n0 : Nat) (v : Option Value) (h : Heap) (L : List Loc) : Prop := ∃ (n1 : Addr) (kn1 : ClassId) (n2 : Addr) (kn2 : ClassId) (n3 : Addr) (kn3 : ClassId), v = none ∧ Fr n0 L ∧ Keep h0 h [a1, aB, aP, aM] ∧ n0 ≤ n1 ∧ n0 ≤ n2 ∧ n0 ≤ n3 ∧ h0.size ≤ n1 ∧ h0.size ≤ n2 ∧ h0.size ≤ n3 ∧ n2 ≠ n1 ∧ n3 ≠ n1 ∧ n3 ≠ n2 ∧ Exa Z h a1 KC ∧ Fld Z h a1 KC "count" "I" (.int 2) ∧ Fld Z h a1 KC "first" "J" (.long 0) ∧ Fld Z h a1 KC KM "[J" (.ref n3) ∧ Arv Z h n3 kn3 .long (8 : Int32) [(.long x0), (.long x1), (.long x2), (.long x3), (.long x4), (.long x5), (.long x6), (.long x7)] (.long 0)
set_option maxRecDepth 65536 in
set_option maxHeartbeats 40000000 in
theorem rmdr20 (l : Launch) (Z : State) (a0 : Array Value) (hw : ∀ d ∈ tables_1, d.before a0 Z = true) (ws : List Jvm.Cond) (a1 : Addr) (q2 : Int64) (aB : Addr) (aP : Addr) (aM : Addr) (kB : ClassId) (kP : ClassId) (kM : ClassId) (b0 : Int64) (b1 : Int64) (b2 : Int64) (b3 : Int64) (b4 : Int64) (b5 : Int64) (b6 : Int64) (b7 : Int64) (x0 : Int64) (x1 : Int64) (x2 : Int64) (x3 : Int64) (x4 : Int64) (x5 : Int64) (x6 : Int64) (x7 : Int64) (h0 : Heap) (n0 : Nat) (Z0 : n0 ≤ h0.size) (E_a1 : Exa Z h0 a1 KC) (F_baseOffsets_a1 : Fld Z h0 a1 KC KB "[J" (.ref aB)) (F_positions_a1 : Fld Z h0 a1 KC KP "[J" (.ref aP)) (F_maxTimestampsSoFar_a1 : Fld Z h0 a1 KC KM "[J" (.ref aM)) (F_count_a1 : Fld Z h0 a1 KC "count" "I" (.int 2)) (F_first_a1 : Fld Z h0 a1 KC "first" "J" (.long 0)) (V_aB : Arv Z h0 aB kB .long (8 : Int32) [(.long b0), (.long b1), (.long b2), (.long b3), (.long b4), (.long b5), (.long b6), (.long b7)] (.long 0)) (V_aP : Arv Z h0 aP kP .long (8 : Int32) [(.long 10), (.long 20), (.long 0), (.long 0), (.long 0), (.long 0), (.long 0), (.long 0)] (.long 0)) (V_aM : Arv Z h0 aM kM .long (8 : Int32) [(.long x0), (.long x1), (.long x2), (.long x3), (.long x4), (.long x5), (.long x6), (.long x7)] (.long 0)) (E_aB : Exa Z h0 aB "[J") (E_aP : Exa Z h0 aP "[J") (E_aM : Exa Z h0 aM "[J") (g_a1 : n0 ≤ a1) (g_aB : n0 ≤ aB) (g_aP : n0 ≤ aP) (g_aM : n0 ≤ aM) (ne_a1_aB : a1 ≠ aB) (ne_a1_aP : a1 ≠ aP) (ne_a1_aM : a1 ≠ aM) (ne_aB_aP : aB ≠ aP) (ne_aB_aM : aB ≠ aM) (ne_aP_aM : aP ≠ aM) (hk : (fla_2 (q2 - (1 : Int64))) = (-1 : Int32)) :
    MetFree l (⟨KC, "dropBefore", "(J)V"⟩ : MethodName) (head1 (Jvm.Cond.code (⟨KC, "dropBefore", "(J)V"⟩ : MethodName) prog_126_method_11_code 4 none :: ws) R_dr20) (fun a U => a = #[(.ref a1), (.long q2)] ∧ Z.Warmed39 U.vm ∧ U.heap = h0) (fun _ _ _ _ _ => True) (fun _ U o U' => ∃ v L, o = .returned v ∧ Qdr20 Z a1 q2 aB aP aM kB kP kM b0 b1 b2 b3 b4 b5 b6 b7 x0 x1 x2 x3 x4 x5 x6 x7 h0 n0 v U'.heap L ∧ FrameEnd U o U' L R_dr20.cells R_dr20.slots) := by
  refine MetFree.of_bodySF (plainFor_of_name pn_55) hisR ?_
  intro p e s m args below meth c s₁ Bd hml0 hP hK
  obtain ⟨rfl, hZ, hh⟩ := hP
  have hx := Bd.exec
  have hby := Bd.bytes
  have hml : c.maxLocals = 4 := hml0
  have hown : s.vm.findClass KC = some m.cls := findClass_of_methodNamed Bd.named
  have hnm := (name_of_methodNamed Bd.named Bd.method).1
  have X0 : Stand p l e R_dr20 s m #[(.ref a1), (.long q2)] below meth c s₁ [] 0 0 := Stand.of_body Bd
  have e0 : s₁.heap = h0 := by rw [← hh, Bd.state]; rfl
  have N0 := Fr.nil n0
  have pre0 : ∀ t, Steps p.tables e below (s₁.setTop (mkF m 0 #[uR a1, uL q2, uS, uU] [])) t → Steps p.tables e below (s₁.setTop (entryFrame m #[(.ref a1), (.long q2)] 4)) t := fun t k => castTop (ef_dr20 m a1 q2) k
  obtain ⟨T1, X1, e1, st1⟩ := getF X0 hx hZ hown (host := "") (Or.inl (own_w hw (i := 13) rfl)) Via.refl e0 F_positions_a1 (g := (mkF m 2 #[uR a1, uL q2, uS, uU] [(.ref a1), (.ref a1)])) rfl rfl (hb hby d3_2)
  -- pc 8: BatchIndex.lastAtOrBefore by rmla_2
  obtain ⟨cq2, qc2, qc2'⟩ := E_a1.cell
  obtain ⟨_, _, ⟨T2, L2, ck2, cn2⟩, -, X2, ⟨Lc2, hQ2, l2, y2, z2⟩, st2⟩ := X1.privateBack hx (y := (⟨KC, "lastAtOrBefore", "([JJ)I"⟩ : MethodName)) hown (mvT hZ (own_w hw (i := 23) rfl)) (mvT hZ (own_w hw (i := 24) rfl)) (own_sel (y := (⟨KC, "lastAtOrBefore", "([JJ)I"⟩ : MethodName)) (mvT hZ (own_w hw (i := 1) rfl)) (Cond.privateMethod_at (mvP hZ (own_w hw (i := 25) rfl) (args := #[]))) (mvT hZ (own_w hw (i := 24) rfl)) (by decide)) (Cond.privateMethod_at (mvP hZ (own_w hw (i := 25) rfl) (args := #[]))) (mvT hZ (own_w hw (i := 26) rfl)) (by decide) (backOf (W := 0) (rmla_2 l Z a0 hw [] a1 aP (q2 - (1 : Int64)) kP (-1 : Int32) h0 n0 Z0 F_count_a1 V_aP hk) hZ (own_w hw (i := 26) rfl) (own_w hw (i := 2) rfl) (by decide) (by decide)) (g := (mkF m 8 #[uR a1, uL q2, uS, uU] [(.long (q2 - (1 : Int64))), (.ref aP), (.ref a1)])) rfl (by rw [hml]; rfl) (Steps.refl _) (a := a1) (by rw [e1]; exact qc2) qc2' (argsL := [(.ref aP), (.long (q2 - (1 : Int64)))]) (rest := []) (lenOf pd_239 rfl) rfl (by show 2 * 0 + _ ≤ _; exact Nat.le_of_eq rfl) (hb hby d3_8) (fun _ _ => ⟨rfl, e1, (by decide : 0 + 0 ≤ _), (by decide : 0 + 0 ≤ _)⟩)
  dsimp only [Pt.U, Pt.locs, Pt.cells, Pt.slots] at X2 l2 y2 z2 st2 hQ2
  subst y2 z2
  obtain ⟨rfl, N2q, e2⟩ := hQ2
  have N3 : Fr n0 L2 := by rw [l2]; exact Fr.app N0 N2q
  obtain ⟨T4, X4, e4, st4⟩ := getF X2 hx hZ hown (host := "") (Or.inl (own_w hw (i := 27) rfl)) Via.refl e2 F_count_a1 (g := (mkF m 16 #[uR a1, uL q2, uS, uI 0] [(.ref a1), (.ref a1)])) rfl rfl (hb hby d3_16)
  obtain ⟨T5, h5, X5, e5, W5, st5⟩ := putF X4 hx hZ hown (host := "") (Or.inl (own_w hw (i := 27) rfl)) Via.refl e4 F_count_a1 E_a1 (Or.inl (own_w hw (i := 28) rfl)) (own_w hw (i := 1) rfl) (ty := .int) (by decide) rfl rfl (g := (mkF m 21 #[uR a1, uL q2, uS, uI 0] [(.int 2), (.ref a1)])) rfl rfl (hb hby d3_21)
  have f6 := E_a1.wr W5
  have f7 := F_baseOffsets_a1.other W5 (Or.inr (sn_143 hw))
  have f8 := F_positions_a1.other W5 (Or.inr (sn_144 hw))
  have f9 := F_maxTimestampsSoFar_a1.other W5 (Or.inr (sn_145 hw))
  have f10 := F_count_a1.same W5
  have f11 := F_first_a1.other W5 (Or.inr (sn_146 hw))
  have f12 := V_aB.other W5 (Ne.symm ne_a1_aB)
  have f13 := V_aP.other W5 (Ne.symm ne_a1_aP)
  have f14 := V_aM.other W5 (Ne.symm ne_a1_aM)
  have f15 := E_aB.wr W5
  have f16 := E_aP.wr W5
  have f17 := E_aM.wr W5
  have K18 := (Keep.refl h0 [a1, aB, aP, aM]).wr W5 (Or.inl (List.mem_of_getElem? (i := 0) rfl))
  have zs19 : n0 ≤ h5.size := Nat.le_trans Z0 (Keep.of_wr W5).1
  have N20 := Fr.snoc X5 N3 g_a1
  obtain ⟨T21, X21, e21, st21⟩ := getF X5 hx hZ hown (host := "") (Or.inl (own_w hw (i := 39) rfl)) Via.refl e5 f11 (g := (mkF m 26 #[uR a1, uL q2, uS, uI 0] [(.ref a1), (.ref a1)])) rfl rfl (hb hby d3_26)
  obtain ⟨T22, h22, X22, e22, W22, st22⟩ := putF X21 hx hZ hown (host := "") (Or.inl (own_w hw (i := 39) rfl)) Via.refl e21 f11 f6 (Or.inl (own_w hw (i := 40) rfl)) (own_w hw (i := 1) rfl) (ty := .long) (by decide) rfl rfl (g := (mkF m 32 #[uR a1, uL q2, uS, uI 0] [(.long 0), (.ref a1)])) rfl rfl (hb hby d3_32)
  have f23 := f6.wr W22
  have f24 := f7.other W22 (Or.inr (sn_256 hw))
  have f25 := f8.other W22 (Or.inr (sn_257 hw))
  have f26 := f9.other W22 (Or.inr (sn_258 hw))
  have f27 := f10.other W22 (Or.inr (sn_259 hw))
  have f28 := f11.same W22
  have f29 := f12.other W22 (Ne.symm ne_a1_aB)
  have f30 := f13.other W22 (Ne.symm ne_a1_aP)
  have f31 := f14.other W22 (Ne.symm ne_a1_aM)
  have f32 := f15.wr W22
  have f33 := f16.wr W22
  have f34 := f17.wr W22
  have K35 := K18.wr W22 (Or.inl (List.mem_of_getElem? (i := 0) rfl))
  have zs36 : n0 ≤ h22.size := Nat.le_trans zs19 (Keep.of_wr W22).1
  have N37 := Fr.snoc X22 N20 g_a1
  obtain ⟨T38, X38, e38, st38⟩ := getF X22 hx hZ hown (host := "") (Or.inl (own_w hw (i := 11) rfl)) Via.refl e22 f24 (g := (mkF m 36 #[uR a1, uL q2, uS, uI 0] [(.ref a1)])) rfl rfl (hb hby d3_36)
  obtain ⟨T39, X39, e39, st39⟩ := getF X38 hx hZ hown (host := "") (Or.inl (own_w hw (i := 11) rfl)) Via.refl e38 f24 (g := (mkF m 41 #[uR a1, uL q2, uS, uI 0] [(.ref a1), (.int 0), (.ref aB)])) rfl rfl (hb hby d3_41)
  obtain ⟨T40, X40, e40, st40⟩ := getF X39 hx hZ hown (host := "") (Or.inl (own_w hw (i := 27) rfl)) Via.refl e39 f27 (g := (mkF m 46 #[uR a1, uL q2, uS, uI 0] [(.ref a1), (.int 0), (.ref aB), (.int 0), (.ref aB)])) rfl rfl (hb hby d3_46)
  obtain ⟨T41, h41, L41, X41, e41, N41, Kc41, V41, st41⟩ := cpA X40 hx hZ hown (own_w hw (i := 41) rfl) (own_w hw (i := 44) rfl) (own_w hw (i := 42) rfl) (own_w hw (i := 43) rfl) e40 f29 f29 (sp := (0 : Int32)) (dp := (0 : Int32)) (nn := (2 : Int32)) (us := [(.long b0), (.long b1)]) (Or.inl ⟨rfl, rfl⟩) (by decide) (by decide) (by decide) (by decide) (by decide) rfl (Nat.le_of_ble_eq_true rfl) N37 g_aB (g := (mkF m 49 #[uR a1, uL q2, uS, uI 0] [(.int 2), (.int 0), (.ref aB), (.int 0), (.ref aB)])) rfl (by rw [hml]; rfl) rfl (hb hby d3_49) (by decide) (W := 0) (by show 2 * 0 + _ ≤ _; exact Nat.le_of_eq rfl) (by decide)
  have Kd41 : Keep h22 h41 [aB] := Kc41
  have f42 := f23.keep Kd41
  have f43 := f24.keep Kd41 (ninS ne_a1_aB nin0)
  have f44 := f25.keep Kd41 (ninS ne_a1_aB nin0)
  have f45 := f26.keep Kd41 (ninS ne_a1_aB nin0)
  have f46 := f27.keep Kd41 (ninS ne_a1_aB nin0)
  have f47 := f28.keep Kd41 (ninS ne_a1_aB nin0)
  have f48 := f30.keep Kd41 (ninS (Ne.symm ne_aB_aP) nin0)
  have f49 := f31.keep Kd41 (ninS (Ne.symm ne_aB_aM) nin0)
  have f50 := f32.keep Kd41
  have f51 := f33.keep Kd41
  have f52 := f34.keep Kd41
  have zs53 : n0 ≤ h41.size := Nat.le_trans zs36 Kd41.1
  have K54 := K35.trans Kd41 (allS (Or.inl (List.mem_of_getElem? (i := 1) rfl)) all0)
  have Vx41 : Arv Z h41 aB kB .long (8 : Int32) [(.long b0), (.long b1), (.long b2), (.long b3), (.long b4), (.long b5), (.long b6), (.long b7)] (.long 0) := V41
  obtain ⟨T55, X55, e55, st55⟩ := getF X41 hx hZ hown (host := "") (Or.inl (own_w hw (i := 13) rfl)) Via.refl e41 f44 (g := (mkF m 53 #[uR a1, uL q2, uS, uI 0] [(.ref a1)])) rfl rfl (hb hby d3_53)
  obtain ⟨T56, X56, e56, st56⟩ := getF X55 hx hZ hown (host := "") (Or.inl (own_w hw (i := 13) rfl)) Via.refl e55 f44 (g := (mkF m 58 #[uR a1, uL q2, uS, uI 0] [(.ref a1), (.int 0), (.ref aP)])) rfl rfl (hb hby d3_58)
  obtain ⟨T57, X57, e57, st57⟩ := getF X56 hx hZ hown (host := "") (Or.inl (own_w hw (i := 27) rfl)) Via.refl e56 f46 (g := (mkF m 63 #[uR a1, uL q2, uS, uI 0] [(.ref a1), (.int 0), (.ref aP), (.int 0), (.ref aP)])) rfl rfl (hb hby d3_63)
  obtain ⟨T58, h58, L58, X58, e58, N58, Kc58, V58, st58⟩ := cpA X57 hx hZ hown (own_w hw (i := 41) rfl) (own_w hw (i := 44) rfl) (own_w hw (i := 42) rfl) (own_w hw (i := 43) rfl) e57 f48 f48 (sp := (0 : Int32)) (dp := (0 : Int32)) (nn := (2 : Int32)) (us := [(.long 10), (.long 20)]) (Or.inl ⟨rfl, rfl⟩) (by decide) (by decide) (by decide) (by decide) (by decide) rfl (Nat.le_of_ble_eq_true rfl) N41 g_aP (g := (mkF m 66 #[uR a1, uL q2, uS, uI 0] [(.int 2), (.int 0), (.ref aP), (.int 0), (.ref aP)])) rfl (by rw [hml]; rfl) rfl (hb hby d3_66) (by decide) (W := 0) (by show 2 * 0 + _ ≤ _; exact Nat.le_of_eq rfl) (by decide)
  have Kd58 : Keep h41 h58 [aP] := Kc58
  have f59 := f42.keep Kd58
  have f60 := f43.keep Kd58 (ninS ne_a1_aP nin0)
  have f61 := f44.keep Kd58 (ninS ne_a1_aP nin0)
  have f62 := f45.keep Kd58 (ninS ne_a1_aP nin0)
  have f63 := f46.keep Kd58 (ninS ne_a1_aP nin0)
  have f64 := f47.keep Kd58 (ninS ne_a1_aP nin0)
  have f65 := f49.keep Kd58 (ninS (Ne.symm ne_aP_aM) nin0)
  have f66 := f50.keep Kd58
  have f67 := f51.keep Kd58
  have f68 := f52.keep Kd58
  have f69 := Vx41.keep Kd58 (ninS ne_aB_aP nin0)
  have zs70 : n0 ≤ h58.size := Nat.le_trans zs53 Kd58.1
  have K71 := K54.trans Kd58 (allS (Or.inl (List.mem_of_getElem? (i := 2) rfl)) all0)
  have Vx58 : Arv Z h58 aP kP .long (8 : Int32) [(.long 10), (.long 20), (.long 0), (.long 0), (.long 0), (.long 0), (.long 0), (.long 0)] (.long 0) := V58
  obtain ⟨T72, X72, e72, st72⟩ := getF X58 hx hZ hown (host := "") (Or.inl (own_w hw (i := 15) rfl)) Via.refl e58 f62 (g := (mkF m 70 #[uR a1, uL q2, uS, uI 0] [(.ref a1)])) rfl rfl (hb hby d3_70)
  obtain ⟨T73, X73, e73, st73⟩ := getF X72 hx hZ hown (host := "") (Or.inl (own_w hw (i := 15) rfl)) Via.refl e72 f62 (g := (mkF m 75 #[uR a1, uL q2, uS, uI 0] [(.ref a1), (.int 0), (.ref aM)])) rfl rfl (hb hby d3_75)
  obtain ⟨T74, X74, e74, st74⟩ := getF X73 hx hZ hown (host := "") (Or.inl (own_w hw (i := 27) rfl)) Via.refl e73 f63 (g := (mkF m 80 #[uR a1, uL q2, uS, uI 0] [(.ref a1), (.int 0), (.ref aM), (.int 0), (.ref aM)])) rfl rfl (hb hby d3_80)
  obtain ⟨T75, h75, L75, X75, e75, N75, Kc75, V75, st75⟩ := cpA X74 hx hZ hown (own_w hw (i := 41) rfl) (own_w hw (i := 44) rfl) (own_w hw (i := 42) rfl) (own_w hw (i := 43) rfl) e74 f65 f65 (sp := (0 : Int32)) (dp := (0 : Int32)) (nn := (2 : Int32)) (us := [(.long x0), (.long x1)]) (Or.inl ⟨rfl, rfl⟩) (by decide) (by decide) (by decide) (by decide) (by decide) rfl (Nat.le_of_ble_eq_true rfl) N58 g_aM (g := (mkF m 83 #[uR a1, uL q2, uS, uI 0] [(.int 2), (.int 0), (.ref aM), (.int 0), (.ref aM)])) rfl (by rw [hml]; rfl) rfl (hb hby d3_83) (by decide) (W := 0) (by show 2 * 0 + _ ≤ _; exact Nat.le_of_eq rfl) (by decide)
  have Kd75 : Keep h58 h75 [aM] := Kc75
  have f76 := f59.keep Kd75
  have f77 := f60.keep Kd75 (ninS ne_a1_aM nin0)
  have f78 := f61.keep Kd75 (ninS ne_a1_aM nin0)
  have f79 := f62.keep Kd75 (ninS ne_a1_aM nin0)
  have f80 := f63.keep Kd75 (ninS ne_a1_aM nin0)
  have f81 := f64.keep Kd75 (ninS ne_a1_aM nin0)
  have f82 := f66.keep Kd75
  have f83 := f67.keep Kd75
  have f84 := f68.keep Kd75
  have f85 := f69.keep Kd75 (ninS ne_aB_aM nin0)
  have f86 := Vx58.keep Kd75 (ninS ne_aP_aM nin0)
  have zs87 : n0 ≤ h75.size := Nat.le_trans zs70 Kd75.1
  have K88 := K71.trans Kd75 (allS (Or.inl (List.mem_of_getElem? (i := 3) rfl)) all0)
  have Vx75 : Arv Z h75 aM kM .long (8 : Int32) [(.long x0), (.long x1), (.long x2), (.long x3), (.long x4), (.long x5), (.long x6), (.long x7)] (.long 0) := V75
  obtain ⟨T89, X89, e89, st89⟩ := getF X75 hx hZ hown (host := "") (Or.inl (own_w hw (i := 27) rfl)) Via.refl e75 f80 (g := (mkF m 88 #[uR a1, uL q2, uS, uI 0] [(.ref a1), (.ref a1)])) rfl rfl (hb hby d3_88)
  -- pc 95: Math.max by rmmx2
  obtain ⟨_, _, ⟨T90, L90, ck90, cn90⟩, -, X90, ⟨Lc90, hQ90, l90, y90, z90⟩, st90⟩ := Jvm.LawKit.callS X89 hx (y := (⟨"java/lang/Math", "max", "(II)I"⟩ : MethodName)) hown (mvT hZ (own_w hw (i := 45) rfl)) (mvT hZ (own_w hw (i := 46) rfl)) (mvT hZ (own_w hw (i := 47) rfl)) (mvT hZ (own_w hw (i := 48) rfl)) (by decide) (backOf (W := 1) (rmmx2 l Z a0 hw [] (4 : Int32) (8 : Int32) h75 n0 zs87 (by decide)) hZ (own_w hw (i := 48) rfl) (own_w hw (i := 47) rfl) (by decide) (by decide)) (g := (mkF m 95 #[uR a1, uL q2, uS, uI 0] [(.int 8), (.int 4), (.ref a1)])) rfl (by rw [hml]; rfl) (argsL := [(.int 4), (.int 8)]) (rest := [(.ref a1)]) (lenOf pd_47 rfl) rfl (by show 2 * 0 + _ ≤ _; exact Nat.le_of_eq rfl) (hb hby d3_95) (fun _ _ => ⟨rfl, e89, (by decide : 0 + 0 ≤ _), (by decide : 0 + 0 ≤ _)⟩)
  dsimp only [Pt.U, Pt.locs, Pt.cells, Pt.slots] at X90 l90 y90 z90 st90 hQ90
  subst y90 z90
  obtain ⟨rfl, N90q, e90⟩ := hQ90
  have N91 : Fr n0 L90 := by rw [l90]; exact Fr.app N75 N90q
  -- pc 98: BatchIndex.resize by rmrz8
  obtain ⟨cq92, qc92, qc92'⟩ := f76.cell
  obtain ⟨_, _, ⟨T92, L92, ck92, cn92⟩, -, X92, ⟨Lc92, hQ92, l92, y92, z92⟩, st92⟩ := X90.privateBack hx (y := (⟨KC, "resize", "(I)V"⟩ : MethodName)) hown (mvT hZ (own_w hw (i := 49) rfl)) (mvT hZ (own_w hw (i := 50) rfl)) (own_sel (y := (⟨KC, "resize", "(I)V"⟩ : MethodName)) (mvT hZ (own_w hw (i := 1) rfl)) (Cond.privateMethod_at (mvP hZ (own_w hw (i := 51) rfl) (args := #[]))) (mvT hZ (own_w hw (i := 50) rfl)) (by decide)) (Cond.privateMethod_at (mvP hZ (own_w hw (i := 51) rfl) (args := #[]))) (mvT hZ (own_w hw (i := 52) rfl)) (by decide) (backOf (W := 0) (rmrz8 l Z a0 hw [] a1 aB aP aM kB kP kM (2 : Int32) (0 : Int64) b0 b1 b2 b3 b4 b5 b6 b7 (10 : Int64) (20 : Int64) (0 : Int64) (0 : Int64) (0 : Int64) (0 : Int64) (0 : Int64) (0 : Int64) x0 x1 x2 x3 x4 x5 x6 x7 h75 n0 zs87 f76 f80 f81 f77 f78 f79 f85 f86 Vx75 f82 f83 f84 g_a1 ne_a1_aB ne_a1_aP ne_a1_aM ne_aB_aP ne_aB_aM ne_aP_aM) hZ (own_w hw (i := 52) rfl) (own_w hw (i := 2) rfl) (by decide) (by decide)) (g := (mkF m 98 #[uR a1, uL q2, uS, uI 0] [(.int 8), (.ref a1)])) rfl (by rw [hml]; rfl) (Steps.refl _) (a := a1) (by rw [e90]; exact qc92) qc92' (argsL := [(.int 8)]) (rest := []) (lenOf pd_114 rfl) rfl (by show 2 * 0 + _ ≤ _; exact Nat.le_of_eq rfl) (hb hby d3_98) (fun _ _ => ⟨rfl, e90, (by decide : 0 + 3 ≤ _), (by decide : 0 + 24 ≤ _)⟩)
  dsimp only [Pt.U, Pt.locs, Pt.cells, Pt.slots] at X92 l92 y92 z92 st92 hQ92
  subst y92 z92
  obtain ⟨n1_92, kn1_92, n2_92, kn2_92, n3_92, kn3_92, rfl, N92q, K92q, gq92_0, gq92_1, gq92_2, sq92_0, sq92_1, sq92_2, nq92_1_0, nq92_2_0, nq92_2_1, o92_0, o92_1, o92_2, o92_3, o92_4, o92_5, o92_6, o92_7, o92_8, o92_9, o92_10, o92_11⟩ := hQ92
  have N93 : Fr n0 L92 := by rw [l92]; exact Fr.app N91 N92q
  have sz_n1_92 : h0.size ≤ n1_92 := Nat.le_trans K88.1 sq92_0
  have sz_n2_92 : h0.size ≤ n2_92 := Nat.le_trans K88.1 sq92_1
  have sz_n3_92 : h0.size ≤ n3_92 := Nat.le_trans K88.1 sq92_2
  have K119 := K88.trans K92q (allS (Or.inl (List.mem_of_getElem? (i := 0) rfl)) all0)
  obtain ⟨fs, hr, hrun, hended, hW, hsame⟩ := X92.leave (v := none) (fun _ => rfl) Bd.notSynchronized
  refine ⟨_, _, pre0 _ ?_, hrun, hended, _, _, rfl, ?_, ⟨_, rfl⟩, hW, hsame.mono (by decide) (by decide)⟩
  · show Steps p.tables e below (s₁.setTop (mkF m 0 #[uR a1, uL q2, uS, uU] [])) _
    refine XS.aloadN X0.here hx rfl (hb hby d3_0) rfl rfl ?_
    refine XS.aloadN X0.here hx rfl (hb hby d3_1) rfl rfl ?_
    refine st1 _ ?_
    refine XS.lloadN X1.here hx rfl (hb hby d3_5) rfl ?_
    refine XS.lconst X1.here hx rfl (hb hby d3_6) ?_
    refine XS.lsub X1.here hx rfl (hb hby d3_7) rfl ?_
    refine st2.trans ?_
    refine XS.iconst X2.here hx rfl (hb hby d3_11) ?_
    refine XS.iadd X2.here hx rfl (hb hby d3_12) rfl ?_
    refine XS.istoreN X2.here hx rfl (hb hby d3_13) rfl (l' := #[uR a1, uL q2, uS, uI 0]) rfl ?_
    refine XS.aloadN X2.here hx rfl (hb hby d3_14) rfl rfl ?_
    refine XS.dup X2.here hx rfl (hb hby d3_15) rfl rfl ?_
    refine st4 _ ?_
    refine XS.iloadN X4.here hx rfl (hb hby d3_19) rfl ?_
    refine XS.isub X4.here hx rfl (hb hby d3_20) rfl ?_
    refine st5 _ ?_
    show Steps p.tables e below (T5.setTop (mkF m 24 #[uR a1, uL q2, uS, uI 0] [])) _
    refine XS.aloadN X5.here hx rfl (hb hby d3_24) rfl rfl ?_
    refine XS.dup X5.here hx rfl (hb hby d3_25) rfl rfl ?_
    refine st21 _ ?_
    refine XS.iloadN X21.here hx rfl (hb hby d3_29) rfl ?_
    refine XS.i2l X21.here hx rfl (hb hby d3_30) rfl ?_
    refine XS.ladd X21.here hx rfl (hb hby d3_31) rfl ?_
    refine st22 _ ?_
    refine XS.aloadN X22.here hx rfl (hb hby d3_35) rfl rfl ?_
    refine st38 _ ?_
    refine XS.iloadN X38.here hx rfl (hb hby d3_39) rfl ?_
    refine XS.aloadN X38.here hx rfl (hb hby d3_40) rfl rfl ?_
    refine st39 _ ?_
    refine XS.iconst X39.here hx rfl (hb hby d3_44) ?_
    refine XS.aloadN X39.here hx rfl (hb hby d3_45) rfl rfl ?_
    refine st40 _ ?_
    refine st41 _ ?_
    show Steps p.tables e below (T41.setTop (mkF m 52 #[uR a1, uL q2, uS, uI 0] [])) _
    refine XS.aloadN X41.here hx rfl (hb hby d3_52) rfl rfl ?_
    refine st55 _ ?_
    refine XS.iloadN X55.here hx rfl (hb hby d3_56) rfl ?_
    refine XS.aloadN X55.here hx rfl (hb hby d3_57) rfl rfl ?_
    refine st56 _ ?_
    refine XS.iconst X56.here hx rfl (hb hby d3_61) ?_
    refine XS.aloadN X56.here hx rfl (hb hby d3_62) rfl rfl ?_
    refine st57 _ ?_
    refine st58 _ ?_
    refine XS.aloadN X58.here hx rfl (hb hby d3_69) rfl rfl ?_
    refine st72 _ ?_
    refine XS.iloadN X72.here hx rfl (hb hby d3_73) rfl ?_
    refine XS.aloadN X72.here hx rfl (hb hby d3_74) rfl rfl ?_
    refine st73 _ ?_
    refine XS.iconst X73.here hx rfl (hb hby d3_78) ?_
    refine XS.aloadN X73.here hx rfl (hb hby d3_79) rfl rfl ?_
    show Steps p.tables e below (T73.setTop (mkF m 80 #[uR a1, uL q2, uS, uI 0] [(.ref a1), (.int 0), (.ref aM), (.int 0), (.ref aM)])) _
    refine st74 _ ?_
    refine st75 _ ?_
    refine XS.aloadN X75.here hx rfl (hb hby d3_86) rfl rfl ?_
    refine XS.aloadN X75.here hx rfl (hb hby d3_87) rfl rfl ?_
    refine st89 _ ?_
    refine XS.iconst X89.here hx rfl (hb hby d3_91) ?_
    refine XS.imul X89.here hx rfl (hb hby d3_92) rfl ?_
    refine XS.bipush X89.here hx rfl (hb hby d3_93) ?_
    refine st90 _ ?_
    refine st92.trans ?_
    exact X92.returnOut hx Bd.returns (hb hby d3_101) hr
  · show Qdr20 Z a1 q2 aB aP aM kB kP kM b0 b1 b2 b3 b4 b5 b6 b7 x0 x1 x2 x3 x4 x5 x6 x7 h0 n0 _ T92.heap _
    exact ⟨n1_92, kn1_92, n2_92, kn2_92, n3_92, kn3_92, rfl, N93, K119, gq92_0, gq92_1, gq92_2, sz_n1_92, sz_n2_92, sz_n3_92, nq92_1_0, nq92_2_0, nq92_2_1, o92_0, o92_4, o92_5, o92_3, o92_10⟩
theorem ef_dr21 (m : MethodId) (x0 : Addr) (x1 : Int64) : entryFrame m #[(.ref x0), (.long x1)] 4 = mkF m 0 #[.val (.ref x0), .val (.long x1), .second, .unset] [] := by first | (simp [entryFrame, mkF, argsToLocals, Value.category]; done) | rfl
abbrev R_dr21 : Room := { frames := 3, cells := 3, slots := 24, locals := 56 }
def Qdr21 (Z : State) (a1 : Addr) (q2 : Int64) (aB : Addr) (aP : Addr) (aM : Addr) (kB : ClassId) (kP : ClassId) (kM : ClassId) (b0 : Int64) (b1 : Int64) (b2 : Int64) (b3 : Int64) (b4 : Int64) (b5 : Int64) (b6 : Int64) (b7 : Int64) (x0 : Int64) (x1 : Int64) (x2 : Int64) (x3 : Int64) (x4 : Int64) (x5 : Int64) (x6 : Int64) (x7 : Int64) (h0 : Heap) (n0 : Nat) (v : Option Value) (h : Heap) (L : List Loc) : Prop := ∃ (n1 : Addr) (kn1 : ClassId) (n2 : Addr) (kn2 : ClassId) (n3 : Addr) (kn3 : ClassId), v = none ∧ Fr n0 L ∧ Keep h0 h [a1, aB, aP, aM] ∧ n0 ≤ n1 ∧ n0 ≤ n2 ∧ n0 ≤ n3 ∧ h0.size ≤ n1 ∧ h0.size ≤ n2 ∧ h0.size ≤ n3 ∧ n2 ≠ n1 ∧ n3 ≠ n1 ∧ n3 ≠ n2 ∧ Exa Z h a1 KC ∧ Fld Z h a1 KC "count" "I" (.int 1) ∧ Fld Z h a1 KC "first" "J" (.long 1) ∧ Fld Z h a1 KC KM "[J" (.ref n3) ∧ Arv Z h n3 kn3 .long (8 : Int32) [(.long x1), (.long x1), (.long x2), (.long x3), (.long x4), (.long x5), (.long x6), (.long x7)] (.long 0)
set_option maxRecDepth 65536 in
set_option maxHeartbeats 40000000 in
theorem rmdr21 (l : Launch) (Z : State) (a0 : Array Value) (hw : ∀ d ∈ tables_1, d.before a0 Z = true) (ws : List Jvm.Cond) (a1 : Addr) (q2 : Int64) (aB : Addr) (aP : Addr) (aM : Addr) (kB : ClassId) (kP : ClassId) (kM : ClassId) (b0 : Int64) (b1 : Int64) (b2 : Int64) (b3 : Int64) (b4 : Int64) (b5 : Int64) (b6 : Int64) (b7 : Int64) (x0 : Int64) (x1 : Int64) (x2 : Int64) (x3 : Int64) (x4 : Int64) (x5 : Int64) (x6 : Int64) (x7 : Int64) (h0 : Heap) (n0 : Nat) (Z0 : n0 ≤ h0.size) (E_a1 : Exa Z h0 a1 KC) (F_baseOffsets_a1 : Fld Z h0 a1 KC KB "[J" (.ref aB)) (F_positions_a1 : Fld Z h0 a1 KC KP "[J" (.ref aP)) (F_maxTimestampsSoFar_a1 : Fld Z h0 a1 KC KM "[J" (.ref aM)) (F_count_a1 : Fld Z h0 a1 KC "count" "I" (.int 2)) (F_first_a1 : Fld Z h0 a1 KC "first" "J" (.long 0)) (V_aB : Arv Z h0 aB kB .long (8 : Int32) [(.long b0), (.long b1), (.long b2), (.long b3), (.long b4), (.long b5), (.long b6), (.long b7)] (.long 0)) (V_aP : Arv Z h0 aP kP .long (8 : Int32) [(.long 10), (.long 20), (.long 0), (.long 0), (.long 0), (.long 0), (.long 0), (.long 0)] (.long 0)) (V_aM : Arv Z h0 aM kM .long (8 : Int32) [(.long x0), (.long x1), (.long x2), (.long x3), (.long x4), (.long x5), (.long x6), (.long x7)] (.long 0)) (E_aB : Exa Z h0 aB "[J") (E_aP : Exa Z h0 aP "[J") (E_aM : Exa Z h0 aM "[J") (g_a1 : n0 ≤ a1) (g_aB : n0 ≤ aB) (g_aP : n0 ≤ aP) (g_aM : n0 ≤ aM) (ne_a1_aB : a1 ≠ aB) (ne_a1_aP : a1 ≠ aP) (ne_a1_aM : a1 ≠ aM) (ne_aB_aP : aB ≠ aP) (ne_aB_aM : aB ≠ aM) (ne_aP_aM : aP ≠ aM) (hk : (fla_2 (q2 - (1 : Int64))) = (0 : Int32)) :
    MetFree l (⟨KC, "dropBefore", "(J)V"⟩ : MethodName) (head1 (Jvm.Cond.code (⟨KC, "dropBefore", "(J)V"⟩ : MethodName) prog_126_method_11_code 4 none :: ws) R_dr21) (fun a U => a = #[(.ref a1), (.long q2)] ∧ Z.Warmed39 U.vm ∧ U.heap = h0) (fun _ _ _ _ _ => True) (fun _ U o U' => ∃ v L, o = .returned v ∧ Qdr21 Z a1 q2 aB aP aM kB kP kM b0 b1 b2 b3 b4 b5 b6 b7 x0 x1 x2 x3 x4 x5 x6 x7 h0 n0 v U'.heap L ∧ FrameEnd U o U' L R_dr21.cells R_dr21.slots) := by
  refine MetFree.of_bodySF (plainFor_of_name pn_55) hisR ?_
  intro p e s m args below meth c s₁ Bd hml0 hP hK
  obtain ⟨rfl, hZ, hh⟩ := hP
  have hx := Bd.exec
  have hby := Bd.bytes
  have hml : c.maxLocals = 4 := hml0
  have hown : s.vm.findClass KC = some m.cls := findClass_of_methodNamed Bd.named
  have hnm := (name_of_methodNamed Bd.named Bd.method).1
  have X0 : Stand p l e R_dr21 s m #[(.ref a1), (.long q2)] below meth c s₁ [] 0 0 := Stand.of_body Bd
  have e0 : s₁.heap = h0 := by rw [← hh, Bd.state]; rfl
  have N0 := Fr.nil n0
  have pre0 : ∀ t, Steps p.tables e below (s₁.setTop (mkF m 0 #[uR a1, uL q2, uS, uU] [])) t → Steps p.tables e below (s₁.setTop (entryFrame m #[(.ref a1), (.long q2)] 4)) t := fun t k => castTop (ef_dr21 m a1 q2) k
  obtain ⟨T1, X1, e1, st1⟩ := getF X0 hx hZ hown (host := "") (Or.inl (own_w hw (i := 13) rfl)) Via.refl e0 F_positions_a1 (g := (mkF m 2 #[uR a1, uL q2, uS, uU] [(.ref a1), (.ref a1)])) rfl rfl (hb hby d3_2)
  -- pc 8: BatchIndex.lastAtOrBefore by rmla_2
  obtain ⟨cq2, qc2, qc2'⟩ := E_a1.cell
  obtain ⟨_, _, ⟨T2, L2, ck2, cn2⟩, -, X2, ⟨Lc2, hQ2, l2, y2, z2⟩, st2⟩ := X1.privateBack hx (y := (⟨KC, "lastAtOrBefore", "([JJ)I"⟩ : MethodName)) hown (mvT hZ (own_w hw (i := 23) rfl)) (mvT hZ (own_w hw (i := 24) rfl)) (own_sel (y := (⟨KC, "lastAtOrBefore", "([JJ)I"⟩ : MethodName)) (mvT hZ (own_w hw (i := 1) rfl)) (Cond.privateMethod_at (mvP hZ (own_w hw (i := 25) rfl) (args := #[]))) (mvT hZ (own_w hw (i := 24) rfl)) (by decide)) (Cond.privateMethod_at (mvP hZ (own_w hw (i := 25) rfl) (args := #[]))) (mvT hZ (own_w hw (i := 26) rfl)) (by decide) (backOf (W := 0) (rmla_2 l Z a0 hw [] a1 aP (q2 - (1 : Int64)) kP (0 : Int32) h0 n0 Z0 F_count_a1 V_aP hk) hZ (own_w hw (i := 26) rfl) (own_w hw (i := 2) rfl) (by decide) (by decide)) (g := (mkF m 8 #[uR a1, uL q2, uS, uU] [(.long (q2 - (1 : Int64))), (.ref aP), (.ref a1)])) rfl (by rw [hml]; rfl) (Steps.refl _) (a := a1) (by rw [e1]; exact qc2) qc2' (argsL := [(.ref aP), (.long (q2 - (1 : Int64)))]) (rest := []) (lenOf pd_239 rfl) rfl (by show 2 * 0 + _ ≤ _; exact Nat.le_of_eq rfl) (hb hby d3_8) (fun _ _ => ⟨rfl, e1, (by decide : 0 + 0 ≤ _), (by decide : 0 + 0 ≤ _)⟩)
  dsimp only [Pt.U, Pt.locs, Pt.cells, Pt.slots] at X2 l2 y2 z2 st2 hQ2
  subst y2 z2
  obtain ⟨rfl, N2q, e2⟩ := hQ2
  have N3 : Fr n0 L2 := by rw [l2]; exact Fr.app N0 N2q
  obtain ⟨T4, X4, e4, st4⟩ := getF X2 hx hZ hown (host := "") (Or.inl (own_w hw (i := 27) rfl)) Via.refl e2 F_count_a1 (g := (mkF m 16 #[uR a1, uL q2, uS, uI 1] [(.ref a1), (.ref a1)])) rfl rfl (hb hby d3_16)
  obtain ⟨T5, h5, X5, e5, W5, st5⟩ := putF X4 hx hZ hown (host := "") (Or.inl (own_w hw (i := 27) rfl)) Via.refl e4 F_count_a1 E_a1 (Or.inl (own_w hw (i := 28) rfl)) (own_w hw (i := 1) rfl) (ty := .int) (by decide) rfl rfl (g := (mkF m 21 #[uR a1, uL q2, uS, uI 1] [(.int 1), (.ref a1)])) rfl rfl (hb hby d3_21)
  have f6 := E_a1.wr W5
  have f7 := F_baseOffsets_a1.other W5 (Or.inr (sn_143 hw))
  have f8 := F_positions_a1.other W5 (Or.inr (sn_144 hw))
  have f9 := F_maxTimestampsSoFar_a1.other W5 (Or.inr (sn_145 hw))
  have f10 := F_count_a1.same W5
  have f11 := F_first_a1.other W5 (Or.inr (sn_146 hw))
  have f12 := V_aB.other W5 (Ne.symm ne_a1_aB)
  have f13 := V_aP.other W5 (Ne.symm ne_a1_aP)
  have f14 := V_aM.other W5 (Ne.symm ne_a1_aM)
  have f15 := E_aB.wr W5
  have f16 := E_aP.wr W5
  have f17 := E_aM.wr W5
  have K18 := (Keep.refl h0 [a1, aB, aP, aM]).wr W5 (Or.inl (List.mem_of_getElem? (i := 0) rfl))
  have zs19 : n0 ≤ h5.size := Nat.le_trans Z0 (Keep.of_wr W5).1
  have N20 := Fr.snoc X5 N3 g_a1
  obtain ⟨T21, X21, e21, st21⟩ := getF X5 hx hZ hown (host := "") (Or.inl (own_w hw (i := 39) rfl)) Via.refl e5 f11 (g := (mkF m 26 #[uR a1, uL q2, uS, uI 1] [(.ref a1), (.ref a1)])) rfl rfl (hb hby d3_26)
  obtain ⟨T22, h22, X22, e22, W22, st22⟩ := putF X21 hx hZ hown (host := "") (Or.inl (own_w hw (i := 39) rfl)) Via.refl e21 f11 f6 (Or.inl (own_w hw (i := 40) rfl)) (own_w hw (i := 1) rfl) (ty := .long) (by decide) rfl rfl (g := (mkF m 32 #[uR a1, uL q2, uS, uI 1] [(.long 1), (.ref a1)])) rfl rfl (hb hby d3_32)
  have f23 := f6.wr W22
  have f24 := f7.other W22 (Or.inr (sn_256 hw))
  have f25 := f8.other W22 (Or.inr (sn_257 hw))
  have f26 := f9.other W22 (Or.inr (sn_258 hw))
  have f27 := f10.other W22 (Or.inr (sn_259 hw))
  have f28 := f11.same W22
  have f29 := f12.other W22 (Ne.symm ne_a1_aB)
  have f30 := f13.other W22 (Ne.symm ne_a1_aP)
  have f31 := f14.other W22 (Ne.symm ne_a1_aM)
  have f32 := f15.wr W22
  have f33 := f16.wr W22
  have f34 := f17.wr W22
  have K35 := K18.wr W22 (Or.inl (List.mem_of_getElem? (i := 0) rfl))
  have zs36 : n0 ≤ h22.size := Nat.le_trans zs19 (Keep.of_wr W22).1
  have N37 := Fr.snoc X22 N20 g_a1
  obtain ⟨T38, X38, e38, st38⟩ := getF X22 hx hZ hown (host := "") (Or.inl (own_w hw (i := 11) rfl)) Via.refl e22 f24 (g := (mkF m 36 #[uR a1, uL q2, uS, uI 1] [(.ref a1)])) rfl rfl (hb hby d3_36)
  obtain ⟨T39, X39, e39, st39⟩ := getF X38 hx hZ hown (host := "") (Or.inl (own_w hw (i := 11) rfl)) Via.refl e38 f24 (g := (mkF m 41 #[uR a1, uL q2, uS, uI 1] [(.ref a1), (.int 1), (.ref aB)])) rfl rfl (hb hby d3_41)
  obtain ⟨T40, X40, e40, st40⟩ := getF X39 hx hZ hown (host := "") (Or.inl (own_w hw (i := 27) rfl)) Via.refl e39 f27 (g := (mkF m 46 #[uR a1, uL q2, uS, uI 1] [(.ref a1), (.int 0), (.ref aB), (.int 1), (.ref aB)])) rfl rfl (hb hby d3_46)
  obtain ⟨T41, h41, L41, X41, e41, N41, Kc41, V41, st41⟩ := cpA X40 hx hZ hown (own_w hw (i := 41) rfl) (own_w hw (i := 44) rfl) (own_w hw (i := 42) rfl) (own_w hw (i := 43) rfl) e40 f29 f29 (sp := (1 : Int32)) (dp := (0 : Int32)) (nn := (1 : Int32)) (us := [(.long b1)]) (Or.inl ⟨rfl, rfl⟩) (by decide) (by decide) (by decide) (by decide) (by decide) rfl (Nat.le_of_ble_eq_true rfl) N37 g_aB (g := (mkF m 49 #[uR a1, uL q2, uS, uI 1] [(.int 1), (.int 0), (.ref aB), (.int 1), (.ref aB)])) rfl (by rw [hml]; rfl) rfl (hb hby d3_49) (by decide) (W := 0) (by show 2 * 0 + _ ≤ _; exact Nat.le_of_eq rfl) (by decide)
  have Kd41 : Keep h22 h41 [aB] := Kc41
  have f42 := f23.keep Kd41
  have f43 := f24.keep Kd41 (ninS ne_a1_aB nin0)
  have f44 := f25.keep Kd41 (ninS ne_a1_aB nin0)
  have f45 := f26.keep Kd41 (ninS ne_a1_aB nin0)
  have f46 := f27.keep Kd41 (ninS ne_a1_aB nin0)
  have f47 := f28.keep Kd41 (ninS ne_a1_aB nin0)
  have f48 := f30.keep Kd41 (ninS (Ne.symm ne_aB_aP) nin0)
  have f49 := f31.keep Kd41 (ninS (Ne.symm ne_aB_aM) nin0)
  have f50 := f32.keep Kd41
  have f51 := f33.keep Kd41
  have f52 := f34.keep Kd41
  have zs53 : n0 ≤ h41.size := Nat.le_trans zs36 Kd41.1
  have K54 := K35.trans Kd41 (allS (Or.inl (List.mem_of_getElem? (i := 1) rfl)) all0)
  have Vx41 : Arv Z h41 aB kB .long (8 : Int32) [(.long b1), (.long b1), (.long b2), (.long b3), (.long b4), (.long b5), (.long b6), (.long b7)] (.long 0) := V41
  obtain ⟨T55, X55, e55, st55⟩ := getF X41 hx hZ hown (host := "") (Or.inl (own_w hw (i := 13) rfl)) Via.refl e41 f44 (g := (mkF m 53 #[uR a1, uL q2, uS, uI 1] [(.ref a1)])) rfl rfl (hb hby d3_53)
  obtain ⟨T56, X56, e56, st56⟩ := getF X55 hx hZ hown (host := "") (Or.inl (own_w hw (i := 13) rfl)) Via.refl e55 f44 (g := (mkF m 58 #[uR a1, uL q2, uS, uI 1] [(.ref a1), (.int 1), (.ref aP)])) rfl rfl (hb hby d3_58)
  obtain ⟨T57, X57, e57, st57⟩ := getF X56 hx hZ hown (host := "") (Or.inl (own_w hw (i := 27) rfl)) Via.refl e56 f46 (g := (mkF m 63 #[uR a1, uL q2, uS, uI 1] [(.ref a1), (.int 0), (.ref aP), (.int 1), (.ref aP)])) rfl rfl (hb hby d3_63)
  obtain ⟨T58, h58, L58, X58, e58, N58, Kc58, V58, st58⟩ := cpA X57 hx hZ hown (own_w hw (i := 41) rfl) (own_w hw (i := 44) rfl) (own_w hw (i := 42) rfl) (own_w hw (i := 43) rfl) e57 f48 f48 (sp := (1 : Int32)) (dp := (0 : Int32)) (nn := (1 : Int32)) (us := [(.long 20)]) (Or.inl ⟨rfl, rfl⟩) (by decide) (by decide) (by decide) (by decide) (by decide) rfl (Nat.le_of_ble_eq_true rfl) N41 g_aP (g := (mkF m 66 #[uR a1, uL q2, uS, uI 1] [(.int 1), (.int 0), (.ref aP), (.int 1), (.ref aP)])) rfl (by rw [hml]; rfl) rfl (hb hby d3_66) (by decide) (W := 0) (by show 2 * 0 + _ ≤ _; exact Nat.le_of_eq rfl) (by decide)
  have Kd58 : Keep h41 h58 [aP] := Kc58
  have f59 := f42.keep Kd58
  have f60 := f43.keep Kd58 (ninS ne_a1_aP nin0)
  have f61 := f44.keep Kd58 (ninS ne_a1_aP nin0)
  have f62 := f45.keep Kd58 (ninS ne_a1_aP nin0)
  have f63 := f46.keep Kd58 (ninS ne_a1_aP nin0)
  have f64 := f47.keep Kd58 (ninS ne_a1_aP nin0)
  have f65 := f49.keep Kd58 (ninS (Ne.symm ne_aP_aM) nin0)
  have f66 := f50.keep Kd58
  have f67 := f51.keep Kd58
  have f68 := f52.keep Kd58
  have f69 := Vx41.keep Kd58 (ninS ne_aB_aP nin0)
  have zs70 : n0 ≤ h58.size := Nat.le_trans zs53 Kd58.1
  have K71 := K54.trans Kd58 (allS (Or.inl (List.mem_of_getElem? (i := 2) rfl)) all0)
  have Vx58 : Arv Z h58 aP kP .long (8 : Int32) [(.long 20), (.long 20), (.long 0), (.long 0), (.long 0), (.long 0), (.long 0), (.long 0)] (.long 0) := V58
  obtain ⟨T72, X72, e72, st72⟩ := getF X58 hx hZ hown (host := "") (Or.inl (own_w hw (i := 15) rfl)) Via.refl e58 f62 (g := (mkF m 70 #[uR a1, uL q2, uS, uI 1] [(.ref a1)])) rfl rfl (hb hby d3_70)
  obtain ⟨T73, X73, e73, st73⟩ := getF X72 hx hZ hown (host := "") (Or.inl (own_w hw (i := 15) rfl)) Via.refl e72 f62 (g := (mkF m 75 #[uR a1, uL q2, uS, uI 1] [(.ref a1), (.int 1), (.ref aM)])) rfl rfl (hb hby d3_75)
  obtain ⟨T74, X74, e74, st74⟩ := getF X73 hx hZ hown (host := "") (Or.inl (own_w hw (i := 27) rfl)) Via.refl e73 f63 (g := (mkF m 80 #[uR a1, uL q2, uS, uI 1] [(.ref a1), (.int 0), (.ref aM), (.int 1), (.ref aM)])) rfl rfl (hb hby d3_80)
  obtain ⟨T75, h75, L75, X75, e75, N75, Kc75, V75, st75⟩ := cpA X74 hx hZ hown (own_w hw (i := 41) rfl) (own_w hw (i := 44) rfl) (own_w hw (i := 42) rfl) (own_w hw (i := 43) rfl) e74 f65 f65 (sp := (1 : Int32)) (dp := (0 : Int32)) (nn := (1 : Int32)) (us := [(.long x1)]) (Or.inl ⟨rfl, rfl⟩) (by decide) (by decide) (by decide) (by decide) (by decide) rfl (Nat.le_of_ble_eq_true rfl) N58 g_aM (g := (mkF m 83 #[uR a1, uL q2, uS, uI 1] [(.int 1), (.int 0), (.ref aM), (.int 1), (.ref aM)])) rfl (by rw [hml]; rfl) rfl (hb hby d3_83) (by decide) (W := 0) (by show 2 * 0 + _ ≤ _; exact Nat.le_of_eq rfl) (by decide)
  have Kd75 : Keep h58 h75 [aM] := Kc75
  have f76 := f59.keep Kd75
  have f77 := f60.keep Kd75 (ninS ne_a1_aM nin0)
  have f78 := f61.keep Kd75 (ninS ne_a1_aM nin0)
  have f79 := f62.keep Kd75 (ninS ne_a1_aM nin0)
  have f80 := f63.keep Kd75 (ninS ne_a1_aM nin0)
  have f81 := f64.keep Kd75 (ninS ne_a1_aM nin0)
  have f82 := f66.keep Kd75
  have f83 := f67.keep Kd75
  have f84 := f68.keep Kd75
  have f85 := f69.keep Kd75 (ninS ne_aB_aM nin0)
  have f86 := Vx58.keep Kd75 (ninS ne_aP_aM nin0)
  have zs87 : n0 ≤ h75.size := Nat.le_trans zs70 Kd75.1
  have K88 := K71.trans Kd75 (allS (Or.inl (List.mem_of_getElem? (i := 3) rfl)) all0)
  have Vx75 : Arv Z h75 aM kM .long (8 : Int32) [(.long x1), (.long x1), (.long x2), (.long x3), (.long x4), (.long x5), (.long x6), (.long x7)] (.long 0) := V75
  obtain ⟨T89, X89, e89, st89⟩ := getF X75 hx hZ hown (host := "") (Or.inl (own_w hw (i := 27) rfl)) Via.refl e75 f80 (g := (mkF m 88 #[uR a1, uL q2, uS, uI 1] [(.ref a1), (.ref a1)])) rfl rfl (hb hby d3_88)
  -- pc 95: Math.max by rmmx2
  obtain ⟨_, _, ⟨T90, L90, ck90, cn90⟩, -, X90, ⟨Lc90, hQ90, l90, y90, z90⟩, st90⟩ := Jvm.LawKit.callS X89 hx (y := (⟨"java/lang/Math", "max", "(II)I"⟩ : MethodName)) hown (mvT hZ (own_w hw (i := 45) rfl)) (mvT hZ (own_w hw (i := 46) rfl)) (mvT hZ (own_w hw (i := 47) rfl)) (mvT hZ (own_w hw (i := 48) rfl)) (by decide) (backOf (W := 1) (rmmx2 l Z a0 hw [] (2 : Int32) (8 : Int32) h75 n0 zs87 (by decide)) hZ (own_w hw (i := 48) rfl) (own_w hw (i := 47) rfl) (by decide) (by decide)) (g := (mkF m 95 #[uR a1, uL q2, uS, uI 1] [(.int 8), (.int 2), (.ref a1)])) rfl (by rw [hml]; rfl) (argsL := [(.int 2), (.int 8)]) (rest := [(.ref a1)]) (lenOf pd_47 rfl) rfl (by show 2 * 0 + _ ≤ _; exact Nat.le_of_eq rfl) (hb hby d3_95) (fun _ _ => ⟨rfl, e89, (by decide : 0 + 0 ≤ _), (by decide : 0 + 0 ≤ _)⟩)
  dsimp only [Pt.U, Pt.locs, Pt.cells, Pt.slots] at X90 l90 y90 z90 st90 hQ90
  subst y90 z90
  obtain ⟨rfl, N90q, e90⟩ := hQ90
  have N91 : Fr n0 L90 := by rw [l90]; exact Fr.app N75 N90q
  -- pc 98: BatchIndex.resize by rmrz8
  obtain ⟨cq92, qc92, qc92'⟩ := f76.cell
  obtain ⟨_, _, ⟨T92, L92, ck92, cn92⟩, -, X92, ⟨Lc92, hQ92, l92, y92, z92⟩, st92⟩ := X90.privateBack hx (y := (⟨KC, "resize", "(I)V"⟩ : MethodName)) hown (mvT hZ (own_w hw (i := 49) rfl)) (mvT hZ (own_w hw (i := 50) rfl)) (own_sel (y := (⟨KC, "resize", "(I)V"⟩ : MethodName)) (mvT hZ (own_w hw (i := 1) rfl)) (Cond.privateMethod_at (mvP hZ (own_w hw (i := 51) rfl) (args := #[]))) (mvT hZ (own_w hw (i := 50) rfl)) (by decide)) (Cond.privateMethod_at (mvP hZ (own_w hw (i := 51) rfl) (args := #[]))) (mvT hZ (own_w hw (i := 52) rfl)) (by decide) (backOf (W := 0) (rmrz8 l Z a0 hw [] a1 aB aP aM kB kP kM (1 : Int32) (1 : Int64) b1 b1 b2 b3 b4 b5 b6 b7 (20 : Int64) (20 : Int64) (0 : Int64) (0 : Int64) (0 : Int64) (0 : Int64) (0 : Int64) (0 : Int64) x1 x1 x2 x3 x4 x5 x6 x7 h75 n0 zs87 f76 f80 f81 f77 f78 f79 f85 f86 Vx75 f82 f83 f84 g_a1 ne_a1_aB ne_a1_aP ne_a1_aM ne_aB_aP ne_aB_aM ne_aP_aM) hZ (own_w hw (i := 52) rfl) (own_w hw (i := 2) rfl) (by decide) (by decide)) (g := (mkF m 98 #[uR a1, uL q2, uS, uI 1] [(.int 8), (.ref a1)])) rfl (by rw [hml]; rfl) (Steps.refl _) (a := a1) (by rw [e90]; exact qc92) qc92' (argsL := [(.int 8)]) (rest := []) (lenOf pd_114 rfl) rfl (by show 2 * 0 + _ ≤ _; exact Nat.le_of_eq rfl) (hb hby d3_98) (fun _ _ => ⟨rfl, e90, (by decide : 0 + 3 ≤ _), (by decide : 0 + 24 ≤ _)⟩)
  dsimp only [Pt.U, Pt.locs, Pt.cells, Pt.slots] at X92 l92 y92 z92 st92 hQ92
  subst y92 z92
  obtain ⟨n1_92, kn1_92, n2_92, kn2_92, n3_92, kn3_92, rfl, N92q, K92q, gq92_0, gq92_1, gq92_2, sq92_0, sq92_1, sq92_2, nq92_1_0, nq92_2_0, nq92_2_1, o92_0, o92_1, o92_2, o92_3, o92_4, o92_5, o92_6, o92_7, o92_8, o92_9, o92_10, o92_11⟩ := hQ92
  have N93 : Fr n0 L92 := by rw [l92]; exact Fr.app N91 N92q
  have sz_n1_92 : h0.size ≤ n1_92 := Nat.le_trans K88.1 sq92_0
  have sz_n2_92 : h0.size ≤ n2_92 := Nat.le_trans K88.1 sq92_1
  have sz_n3_92 : h0.size ≤ n3_92 := Nat.le_trans K88.1 sq92_2
  have K119 := K88.trans K92q (allS (Or.inl (List.mem_of_getElem? (i := 0) rfl)) all0)
  obtain ⟨fs, hr, hrun, hended, hW, hsame⟩ := X92.leave (v := none) (fun _ => rfl) Bd.notSynchronized
  refine ⟨_, _, pre0 _ ?_, hrun, hended, _, _, rfl, ?_, ⟨_, rfl⟩, hW, hsame.mono (by decide) (by decide)⟩
  · show Steps p.tables e below (s₁.setTop (mkF m 0 #[uR a1, uL q2, uS, uU] [])) _
    refine XS.aloadN X0.here hx rfl (hb hby d3_0) rfl rfl ?_
    refine XS.aloadN X0.here hx rfl (hb hby d3_1) rfl rfl ?_
    refine st1 _ ?_
    refine XS.lloadN X1.here hx rfl (hb hby d3_5) rfl ?_
    refine XS.lconst X1.here hx rfl (hb hby d3_6) ?_
    refine XS.lsub X1.here hx rfl (hb hby d3_7) rfl ?_
    refine st2.trans ?_
    refine XS.iconst X2.here hx rfl (hb hby d3_11) ?_
    refine XS.iadd X2.here hx rfl (hb hby d3_12) rfl ?_
    refine XS.istoreN X2.here hx rfl (hb hby d3_13) rfl (l' := #[uR a1, uL q2, uS, uI 1]) rfl ?_
    refine XS.aloadN X2.here hx rfl (hb hby d3_14) rfl rfl ?_
    refine XS.dup X2.here hx rfl (hb hby d3_15) rfl rfl ?_
    refine st4 _ ?_
    refine XS.iloadN X4.here hx rfl (hb hby d3_19) rfl ?_
    refine XS.isub X4.here hx rfl (hb hby d3_20) rfl ?_
    refine st5 _ ?_
    show Steps p.tables e below (T5.setTop (mkF m 24 #[uR a1, uL q2, uS, uI 1] [])) _
    refine XS.aloadN X5.here hx rfl (hb hby d3_24) rfl rfl ?_
    refine XS.dup X5.here hx rfl (hb hby d3_25) rfl rfl ?_
    refine st21 _ ?_
    refine XS.iloadN X21.here hx rfl (hb hby d3_29) rfl ?_
    refine XS.i2l X21.here hx rfl (hb hby d3_30) rfl ?_
    refine XS.ladd X21.here hx rfl (hb hby d3_31) rfl ?_
    refine st22 _ ?_
    refine XS.aloadN X22.here hx rfl (hb hby d3_35) rfl rfl ?_
    refine st38 _ ?_
    refine XS.iloadN X38.here hx rfl (hb hby d3_39) rfl ?_
    refine XS.aloadN X38.here hx rfl (hb hby d3_40) rfl rfl ?_
    refine st39 _ ?_
    refine XS.iconst X39.here hx rfl (hb hby d3_44) ?_
    refine XS.aloadN X39.here hx rfl (hb hby d3_45) rfl rfl ?_
    refine st40 _ ?_
    refine st41 _ ?_
    show Steps p.tables e below (T41.setTop (mkF m 52 #[uR a1, uL q2, uS, uI 1] [])) _
    refine XS.aloadN X41.here hx rfl (hb hby d3_52) rfl rfl ?_
    refine st55 _ ?_
    refine XS.iloadN X55.here hx rfl (hb hby d3_56) rfl ?_
    refine XS.aloadN X55.here hx rfl (hb hby d3_57) rfl rfl ?_
    refine st56 _ ?_
    refine XS.iconst X56.here hx rfl (hb hby d3_61) ?_
    refine XS.aloadN X56.here hx rfl (hb hby d3_62) rfl rfl ?_
    refine st57 _ ?_
    refine st58 _ ?_
    refine XS.aloadN X58.here hx rfl (hb hby d3_69) rfl rfl ?_
    refine st72 _ ?_
    refine XS.iloadN X72.here hx rfl (hb hby d3_73) rfl ?_
    refine XS.aloadN X72.here hx rfl (hb hby d3_74) rfl rfl ?_
    refine st73 _ ?_
    refine XS.iconst X73.here hx rfl (hb hby d3_78) ?_
    refine XS.aloadN X73.here hx rfl (hb hby d3_79) rfl rfl ?_
    show Steps p.tables e below (T73.setTop (mkF m 80 #[uR a1, uL q2, uS, uI 1] [(.ref a1), (.int 0), (.ref aM), (.int 1), (.ref aM)])) _
    refine st74 _ ?_
    refine st75 _ ?_
    refine XS.aloadN X75.here hx rfl (hb hby d3_86) rfl rfl ?_
    refine XS.aloadN X75.here hx rfl (hb hby d3_87) rfl rfl ?_
    refine st89 _ ?_
    refine XS.iconst X89.here hx rfl (hb hby d3_91) ?_
    refine XS.imul X89.here hx rfl (hb hby d3_92) rfl ?_
    refine XS.bipush X89.here hx rfl (hb hby d3_93) ?_
    refine st90 _ ?_
    refine st92.trans ?_
    exact X92.returnOut hx Bd.returns (hb hby d3_101) hr
  · show Qdr21 Z a1 q2 aB aP aM kB kP kM b0 b1 b2 b3 b4 b5 b6 b7 x0 x1 x2 x3 x4 x5 x6 x7 h0 n0 _ T92.heap _
    exact ⟨n1_92, kn1_92, n2_92, kn2_92, n3_92, kn3_92, rfl, N93, K119, gq92_0, gq92_1, gq92_2, sz_n1_92, sz_n2_92, sz_n3_92, nq92_1_0, nq92_2_0, nq92_2_1, o92_0, o92_4, o92_5, o92_3, o92_10⟩
theorem ef_dr22 (m : MethodId) (x0 : Addr) (x1 : Int64) : entryFrame m #[(.ref x0), (.long x1)] 4 = mkF m 0 #[.val (.ref x0), .val (.long x1), .second, .unset] [] := by first | (simp [entryFrame, mkF, argsToLocals, Value.category]; done) | rfl
abbrev R_dr22 : Room := { frames := 3, cells := 3, slots := 24, locals := 56 }
def Qdr22 (Z : State) (a1 : Addr) (q2 : Int64) (aB : Addr) (aP : Addr) (aM : Addr) (kB : ClassId) (kP : ClassId) (kM : ClassId) (b0 : Int64) (b1 : Int64) (b2 : Int64) (b3 : Int64) (b4 : Int64) (b5 : Int64) (b6 : Int64) (b7 : Int64) (x0 : Int64) (x1 : Int64) (x2 : Int64) (x3 : Int64) (x4 : Int64) (x5 : Int64) (x6 : Int64) (x7 : Int64) (h0 : Heap) (n0 : Nat) (v : Option Value) (h : Heap) (L : List Loc) : Prop := ∃ (n1 : Addr) (kn1 : ClassId) (n2 : Addr) (kn2 : ClassId) (n3 : Addr) (kn3 : ClassId), v = none ∧ Fr n0 L ∧ Keep h0 h [a1, aB, aP, aM] ∧ n0 ≤ n1 ∧ n0 ≤ n2 ∧ n0 ≤ n3 ∧ h0.size ≤ n1 ∧ h0.size ≤ n2 ∧ h0.size ≤ n3 ∧ n2 ≠ n1 ∧ n3 ≠ n1 ∧ n3 ≠ n2 ∧ Exa Z h a1 KC ∧ Fld Z h a1 KC "count" "I" (.int 0) ∧ Fld Z h a1 KC "first" "J" (.long 2) ∧ Fld Z h a1 KC KM "[J" (.ref n3) ∧ Arv Z h n3 kn3 .long (8 : Int32) [(.long x0), (.long x1), (.long x2), (.long x3), (.long x4), (.long x5), (.long x6), (.long x7)] (.long 0)
set_option maxRecDepth 65536 in
set_option maxHeartbeats 40000000 in
theorem rmdr22 (l : Launch) (Z : State) (a0 : Array Value) (hw : ∀ d ∈ tables_1, d.before a0 Z = true) (ws : List Jvm.Cond) (a1 : Addr) (q2 : Int64) (aB : Addr) (aP : Addr) (aM : Addr) (kB : ClassId) (kP : ClassId) (kM : ClassId) (b0 : Int64) (b1 : Int64) (b2 : Int64) (b3 : Int64) (b4 : Int64) (b5 : Int64) (b6 : Int64) (b7 : Int64) (x0 : Int64) (x1 : Int64) (x2 : Int64) (x3 : Int64) (x4 : Int64) (x5 : Int64) (x6 : Int64) (x7 : Int64) (h0 : Heap) (n0 : Nat) (Z0 : n0 ≤ h0.size) (E_a1 : Exa Z h0 a1 KC) (F_baseOffsets_a1 : Fld Z h0 a1 KC KB "[J" (.ref aB)) (F_positions_a1 : Fld Z h0 a1 KC KP "[J" (.ref aP)) (F_maxTimestampsSoFar_a1 : Fld Z h0 a1 KC KM "[J" (.ref aM)) (F_count_a1 : Fld Z h0 a1 KC "count" "I" (.int 2)) (F_first_a1 : Fld Z h0 a1 KC "first" "J" (.long 0)) (V_aB : Arv Z h0 aB kB .long (8 : Int32) [(.long b0), (.long b1), (.long b2), (.long b3), (.long b4), (.long b5), (.long b6), (.long b7)] (.long 0)) (V_aP : Arv Z h0 aP kP .long (8 : Int32) [(.long 10), (.long 20), (.long 0), (.long 0), (.long 0), (.long 0), (.long 0), (.long 0)] (.long 0)) (V_aM : Arv Z h0 aM kM .long (8 : Int32) [(.long x0), (.long x1), (.long x2), (.long x3), (.long x4), (.long x5), (.long x6), (.long x7)] (.long 0)) (E_aB : Exa Z h0 aB "[J") (E_aP : Exa Z h0 aP "[J") (E_aM : Exa Z h0 aM "[J") (g_a1 : n0 ≤ a1) (g_aB : n0 ≤ aB) (g_aP : n0 ≤ aP) (g_aM : n0 ≤ aM) (ne_a1_aB : a1 ≠ aB) (ne_a1_aP : a1 ≠ aP) (ne_a1_aM : a1 ≠ aM) (ne_aB_aP : aB ≠ aP) (ne_aB_aM : aB ≠ aM) (ne_aP_aM : aP ≠ aM) (hk : (fla_2 (q2 - (1 : Int64))) = (1 : Int32)) :
    MetFree l (⟨KC, "dropBefore", "(J)V"⟩ : MethodName) (head1 (Jvm.Cond.code (⟨KC, "dropBefore", "(J)V"⟩ : MethodName) prog_126_method_11_code 4 none :: ws) R_dr22) (fun a U => a = #[(.ref a1), (.long q2)] ∧ Z.Warmed39 U.vm ∧ U.heap = h0) (fun _ _ _ _ _ => True) (fun _ U o U' => ∃ v L, o = .returned v ∧ Qdr22 Z a1 q2 aB aP aM kB kP kM b0 b1 b2 b3 b4 b5 b6 b7 x0 x1 x2 x3 x4 x5 x6 x7 h0 n0 v U'.heap L ∧ FrameEnd U o U' L R_dr22.cells R_dr22.slots) := by
  refine MetFree.of_bodySF (plainFor_of_name pn_55) hisR ?_
  intro p e s m args below meth c s₁ Bd hml0 hP hK
  obtain ⟨rfl, hZ, hh⟩ := hP
  have hx := Bd.exec
  have hby := Bd.bytes
  have hml : c.maxLocals = 4 := hml0
  have hown : s.vm.findClass KC = some m.cls := findClass_of_methodNamed Bd.named
  have hnm := (name_of_methodNamed Bd.named Bd.method).1
  have X0 : Stand p l e R_dr22 s m #[(.ref a1), (.long q2)] below meth c s₁ [] 0 0 := Stand.of_body Bd
  have e0 : s₁.heap = h0 := by rw [← hh, Bd.state]; rfl
  have N0 := Fr.nil n0
  have pre0 : ∀ t, Steps p.tables e below (s₁.setTop (mkF m 0 #[uR a1, uL q2, uS, uU] [])) t → Steps p.tables e below (s₁.setTop (entryFrame m #[(.ref a1), (.long q2)] 4)) t := fun t k => castTop (ef_dr22 m a1 q2) k
  obtain ⟨T1, X1, e1, st1⟩ := getF X0 hx hZ hown (host := "") (Or.inl (own_w hw (i := 13) rfl)) Via.refl e0 F_positions_a1 (g := (mkF m 2 #[uR a1, uL q2, uS, uU] [(.ref a1), (.ref a1)])) rfl rfl (hb hby d3_2)
  -- pc 8: BatchIndex.lastAtOrBefore by rmla_2
  obtain ⟨cq2, qc2, qc2'⟩ := E_a1.cell
  obtain ⟨_, _, ⟨T2, L2, ck2, cn2⟩, -, X2, ⟨Lc2, hQ2, l2, y2, z2⟩, st2⟩ := X1.privateBack hx (y := (⟨KC, "lastAtOrBefore", "([JJ)I"⟩ : MethodName)) hown (mvT hZ (own_w hw (i := 23) rfl)) (mvT hZ (own_w hw (i := 24) rfl)) (own_sel (y := (⟨KC, "lastAtOrBefore", "([JJ)I"⟩ : MethodName)) (mvT hZ (own_w hw (i := 1) rfl)) (Cond.privateMethod_at (mvP hZ (own_w hw (i := 25) rfl) (args := #[]))) (mvT hZ (own_w hw (i := 24) rfl)) (by decide)) (Cond.privateMethod_at (mvP hZ (own_w hw (i := 25) rfl) (args := #[]))) (mvT hZ (own_w hw (i := 26) rfl)) (by decide) (backOf (W := 0) (rmla_2 l Z a0 hw [] a1 aP (q2 - (1 : Int64)) kP (1 : Int32) h0 n0 Z0 F_count_a1 V_aP hk) hZ (own_w hw (i := 26) rfl) (own_w hw (i := 2) rfl) (by decide) (by decide)) (g := (mkF m 8 #[uR a1, uL q2, uS, uU] [(.long (q2 - (1 : Int64))), (.ref aP), (.ref a1)])) rfl (by rw [hml]; rfl) (Steps.refl _) (a := a1) (by rw [e1]; exact qc2) qc2' (argsL := [(.ref aP), (.long (q2 - (1 : Int64)))]) (rest := []) (lenOf pd_239 rfl) rfl (by show 2 * 0 + _ ≤ _; exact Nat.le_of_eq rfl) (hb hby d3_8) (fun _ _ => ⟨rfl, e1, (by decide : 0 + 0 ≤ _), (by decide : 0 + 0 ≤ _)⟩)
  dsimp only [Pt.U, Pt.locs, Pt.cells, Pt.slots] at X2 l2 y2 z2 st2 hQ2
  subst y2 z2
  obtain ⟨rfl, N2q, e2⟩ := hQ2
  have N3 : Fr n0 L2 := by rw [l2]; exact Fr.app N0 N2q
  obtain ⟨T4, X4, e4, st4⟩ := getF X2 hx hZ hown (host := "") (Or.inl (own_w hw (i := 27) rfl)) Via.refl e2 F_count_a1 (g := (mkF m 16 #[uR a1, uL q2, uS, uI 2] [(.ref a1), (.ref a1)])) rfl rfl (hb hby d3_16)
  obtain ⟨T5, h5, X5, e5, W5, st5⟩ := putF X4 hx hZ hown (host := "") (Or.inl (own_w hw (i := 27) rfl)) Via.refl e4 F_count_a1 E_a1 (Or.inl (own_w hw (i := 28) rfl)) (own_w hw (i := 1) rfl) (ty := .int) (by decide) rfl rfl (g := (mkF m 21 #[uR a1, uL q2, uS, uI 2] [(.int 0), (.ref a1)])) rfl rfl (hb hby d3_21)
  have f6 := E_a1.wr W5
  have f7 := F_baseOffsets_a1.other W5 (Or.inr (sn_143 hw))
  have f8 := F_positions_a1.other W5 (Or.inr (sn_144 hw))
  have f9 := F_maxTimestampsSoFar_a1.other W5 (Or.inr (sn_145 hw))
  have f10 := F_count_a1.same W5
  have f11 := F_first_a1.other W5 (Or.inr (sn_146 hw))
  have f12 := V_aB.other W5 (Ne.symm ne_a1_aB)
  have f13 := V_aP.other W5 (Ne.symm ne_a1_aP)
  have f14 := V_aM.other W5 (Ne.symm ne_a1_aM)
  have f15 := E_aB.wr W5
  have f16 := E_aP.wr W5
  have f17 := E_aM.wr W5
  have K18 := (Keep.refl h0 [a1, aB, aP, aM]).wr W5 (Or.inl (List.mem_of_getElem? (i := 0) rfl))
  have zs19 : n0 ≤ h5.size := Nat.le_trans Z0 (Keep.of_wr W5).1
  have N20 := Fr.snoc X5 N3 g_a1
  obtain ⟨T21, X21, e21, st21⟩ := getF X5 hx hZ hown (host := "") (Or.inl (own_w hw (i := 39) rfl)) Via.refl e5 f11 (g := (mkF m 26 #[uR a1, uL q2, uS, uI 2] [(.ref a1), (.ref a1)])) rfl rfl (hb hby d3_26)
  obtain ⟨T22, h22, X22, e22, W22, st22⟩ := putF X21 hx hZ hown (host := "") (Or.inl (own_w hw (i := 39) rfl)) Via.refl e21 f11 f6 (Or.inl (own_w hw (i := 40) rfl)) (own_w hw (i := 1) rfl) (ty := .long) (by decide) rfl rfl (g := (mkF m 32 #[uR a1, uL q2, uS, uI 2] [(.long 2), (.ref a1)])) rfl rfl (hb hby d3_32)
  have f23 := f6.wr W22
  have f24 := f7.other W22 (Or.inr (sn_256 hw))
  have f25 := f8.other W22 (Or.inr (sn_257 hw))
  have f26 := f9.other W22 (Or.inr (sn_258 hw))
  have f27 := f10.other W22 (Or.inr (sn_259 hw))
  have f28 := f11.same W22
  have f29 := f12.other W22 (Ne.symm ne_a1_aB)
  have f30 := f13.other W22 (Ne.symm ne_a1_aP)
  have f31 := f14.other W22 (Ne.symm ne_a1_aM)
  have f32 := f15.wr W22
  have f33 := f16.wr W22
  have f34 := f17.wr W22
  have K35 := K18.wr W22 (Or.inl (List.mem_of_getElem? (i := 0) rfl))
  have zs36 : n0 ≤ h22.size := Nat.le_trans zs19 (Keep.of_wr W22).1
  have N37 := Fr.snoc X22 N20 g_a1
  obtain ⟨T38, X38, e38, st38⟩ := getF X22 hx hZ hown (host := "") (Or.inl (own_w hw (i := 11) rfl)) Via.refl e22 f24 (g := (mkF m 36 #[uR a1, uL q2, uS, uI 2] [(.ref a1)])) rfl rfl (hb hby d3_36)
  obtain ⟨T39, X39, e39, st39⟩ := getF X38 hx hZ hown (host := "") (Or.inl (own_w hw (i := 11) rfl)) Via.refl e38 f24 (g := (mkF m 41 #[uR a1, uL q2, uS, uI 2] [(.ref a1), (.int 2), (.ref aB)])) rfl rfl (hb hby d3_41)
  obtain ⟨T40, X40, e40, st40⟩ := getF X39 hx hZ hown (host := "") (Or.inl (own_w hw (i := 27) rfl)) Via.refl e39 f27 (g := (mkF m 46 #[uR a1, uL q2, uS, uI 2] [(.ref a1), (.int 0), (.ref aB), (.int 2), (.ref aB)])) rfl rfl (hb hby d3_46)
  obtain ⟨T41, h41, L41, X41, e41, N41, Kc41, V41, st41⟩ := cpA X40 hx hZ hown (own_w hw (i := 41) rfl) (own_w hw (i := 44) rfl) (own_w hw (i := 42) rfl) (own_w hw (i := 43) rfl) e40 f29 f29 (sp := (2 : Int32)) (dp := (0 : Int32)) (nn := (0 : Int32)) (us := []) (Or.inl ⟨rfl, rfl⟩) (by decide) (by decide) (by decide) (by decide) (by decide) rfl (Nat.le_of_ble_eq_true rfl) N37 g_aB (g := (mkF m 49 #[uR a1, uL q2, uS, uI 2] [(.int 0), (.int 0), (.ref aB), (.int 2), (.ref aB)])) rfl (by rw [hml]; rfl) rfl (hb hby d3_49) (by decide) (W := 0) (by show 2 * 0 + _ ≤ _; exact Nat.le_of_eq rfl) (by decide)
  have Kd41 : Keep h22 h41 [aB] := Kc41
  have f42 := f23.keep Kd41
  have f43 := f24.keep Kd41 (ninS ne_a1_aB nin0)
  have f44 := f25.keep Kd41 (ninS ne_a1_aB nin0)
  have f45 := f26.keep Kd41 (ninS ne_a1_aB nin0)
  have f46 := f27.keep Kd41 (ninS ne_a1_aB nin0)
  have f47 := f28.keep Kd41 (ninS ne_a1_aB nin0)
  have f48 := f30.keep Kd41 (ninS (Ne.symm ne_aB_aP) nin0)
  have f49 := f31.keep Kd41 (ninS (Ne.symm ne_aB_aM) nin0)
  have f50 := f32.keep Kd41
  have f51 := f33.keep Kd41
  have f52 := f34.keep Kd41
  have zs53 : n0 ≤ h41.size := Nat.le_trans zs36 Kd41.1
  have K54 := K35.trans Kd41 (allS (Or.inl (List.mem_of_getElem? (i := 1) rfl)) all0)
  have Vx41 : Arv Z h41 aB kB .long (8 : Int32) [(.long b0), (.long b1), (.long b2), (.long b3), (.long b4), (.long b5), (.long b6), (.long b7)] (.long 0) := V41
  obtain ⟨T55, X55, e55, st55⟩ := getF X41 hx hZ hown (host := "") (Or.inl (own_w hw (i := 13) rfl)) Via.refl e41 f44 (g := (mkF m 53 #[uR a1, uL q2, uS, uI 2] [(.ref a1)])) rfl rfl (hb hby d3_53)
  obtain ⟨T56, X56, e56, st56⟩ := getF X55 hx hZ hown (host := "") (Or.inl (own_w hw (i := 13) rfl)) Via.refl e55 f44 (g := (mkF m 58 #[uR a1, uL q2, uS, uI 2] [(.ref a1), (.int 2), (.ref aP)])) rfl rfl (hb hby d3_58)
  obtain ⟨T57, X57, e57, st57⟩ := getF X56 hx hZ hown (host := "") (Or.inl (own_w hw (i := 27) rfl)) Via.refl e56 f46 (g := (mkF m 63 #[uR a1, uL q2, uS, uI 2] [(.ref a1), (.int 0), (.ref aP), (.int 2), (.ref aP)])) rfl rfl (hb hby d3_63)
  obtain ⟨T58, h58, L58, X58, e58, N58, Kc58, V58, st58⟩ := cpA X57 hx hZ hown (own_w hw (i := 41) rfl) (own_w hw (i := 44) rfl) (own_w hw (i := 42) rfl) (own_w hw (i := 43) rfl) e57 f48 f48 (sp := (2 : Int32)) (dp := (0 : Int32)) (nn := (0 : Int32)) (us := []) (Or.inl ⟨rfl, rfl⟩) (by decide) (by decide) (by decide) (by decide) (by decide) rfl (Nat.le_of_ble_eq_true rfl) N41 g_aP (g := (mkF m 66 #[uR a1, uL q2, uS, uI 2] [(.int 0), (.int 0), (.ref aP), (.int 2), (.ref aP)])) rfl (by rw [hml]; rfl) rfl (hb hby d3_66) (by decide) (W := 0) (by show 2 * 0 + _ ≤ _; exact Nat.le_of_eq rfl) (by decide)
  have Kd58 : Keep h41 h58 [aP] := Kc58
  have f59 := f42.keep Kd58
  have f60 := f43.keep Kd58 (ninS ne_a1_aP nin0)
  have f61 := f44.keep Kd58 (ninS ne_a1_aP nin0)
  have f62 := f45.keep Kd58 (ninS ne_a1_aP nin0)
  have f63 := f46.keep Kd58 (ninS ne_a1_aP nin0)
  have f64 := f47.keep Kd58 (ninS ne_a1_aP nin0)
  have f65 := f49.keep Kd58 (ninS (Ne.symm ne_aP_aM) nin0)
  have f66 := f50.keep Kd58
  have f67 := f51.keep Kd58
  have f68 := f52.keep Kd58
  have f69 := Vx41.keep Kd58 (ninS ne_aB_aP nin0)
  have zs70 : n0 ≤ h58.size := Nat.le_trans zs53 Kd58.1
  have K71 := K54.trans Kd58 (allS (Or.inl (List.mem_of_getElem? (i := 2) rfl)) all0)
  have Vx58 : Arv Z h58 aP kP .long (8 : Int32) [(.long 10), (.long 20), (.long 0), (.long 0), (.long 0), (.long 0), (.long 0), (.long 0)] (.long 0) := V58
  obtain ⟨T72, X72, e72, st72⟩ := getF X58 hx hZ hown (host := "") (Or.inl (own_w hw (i := 15) rfl)) Via.refl e58 f62 (g := (mkF m 70 #[uR a1, uL q2, uS, uI 2] [(.ref a1)])) rfl rfl (hb hby d3_70)
  obtain ⟨T73, X73, e73, st73⟩ := getF X72 hx hZ hown (host := "") (Or.inl (own_w hw (i := 15) rfl)) Via.refl e72 f62 (g := (mkF m 75 #[uR a1, uL q2, uS, uI 2] [(.ref a1), (.int 2), (.ref aM)])) rfl rfl (hb hby d3_75)
  obtain ⟨T74, X74, e74, st74⟩ := getF X73 hx hZ hown (host := "") (Or.inl (own_w hw (i := 27) rfl)) Via.refl e73 f63 (g := (mkF m 80 #[uR a1, uL q2, uS, uI 2] [(.ref a1), (.int 0), (.ref aM), (.int 2), (.ref aM)])) rfl rfl (hb hby d3_80)
  obtain ⟨T75, h75, L75, X75, e75, N75, Kc75, V75, st75⟩ := cpA X74 hx hZ hown (own_w hw (i := 41) rfl) (own_w hw (i := 44) rfl) (own_w hw (i := 42) rfl) (own_w hw (i := 43) rfl) e74 f65 f65 (sp := (2 : Int32)) (dp := (0 : Int32)) (nn := (0 : Int32)) (us := []) (Or.inl ⟨rfl, rfl⟩) (by decide) (by decide) (by decide) (by decide) (by decide) rfl (Nat.le_of_ble_eq_true rfl) N58 g_aM (g := (mkF m 83 #[uR a1, uL q2, uS, uI 2] [(.int 0), (.int 0), (.ref aM), (.int 2), (.ref aM)])) rfl (by rw [hml]; rfl) rfl (hb hby d3_83) (by decide) (W := 0) (by show 2 * 0 + _ ≤ _; exact Nat.le_of_eq rfl) (by decide)
  have Kd75 : Keep h58 h75 [aM] := Kc75
  have f76 := f59.keep Kd75
  have f77 := f60.keep Kd75 (ninS ne_a1_aM nin0)
  have f78 := f61.keep Kd75 (ninS ne_a1_aM nin0)
  have f79 := f62.keep Kd75 (ninS ne_a1_aM nin0)
  have f80 := f63.keep Kd75 (ninS ne_a1_aM nin0)
  have f81 := f64.keep Kd75 (ninS ne_a1_aM nin0)
  have f82 := f66.keep Kd75
  have f83 := f67.keep Kd75
  have f84 := f68.keep Kd75
  have f85 := f69.keep Kd75 (ninS ne_aB_aM nin0)
  have f86 := Vx58.keep Kd75 (ninS ne_aP_aM nin0)
  have zs87 : n0 ≤ h75.size := Nat.le_trans zs70 Kd75.1
  have K88 := K71.trans Kd75 (allS (Or.inl (List.mem_of_getElem? (i := 3) rfl)) all0)
  have Vx75 : Arv Z h75 aM kM .long (8 : Int32) [(.long x0), (.long x1), (.long x2), (.long x3), (.long x4), (.long x5), (.long x6), (.long x7)] (.long 0) := V75
  obtain ⟨T89, X89, e89, st89⟩ := getF X75 hx hZ hown (host := "") (Or.inl (own_w hw (i := 27) rfl)) Via.refl e75 f80 (g := (mkF m 88 #[uR a1, uL q2, uS, uI 2] [(.ref a1), (.ref a1)])) rfl rfl (hb hby d3_88)
  -- pc 95: Math.max by rmmx2
  obtain ⟨_, _, ⟨T90, L90, ck90, cn90⟩, -, X90, ⟨Lc90, hQ90, l90, y90, z90⟩, st90⟩ := Jvm.LawKit.callS X89 hx (y := (⟨"java/lang/Math", "max", "(II)I"⟩ : MethodName)) hown (mvT hZ (own_w hw (i := 45) rfl)) (mvT hZ (own_w hw (i := 46) rfl)) (mvT hZ (own_w hw (i := 47) rfl)) (mvT hZ (own_w hw (i := 48) rfl)) (by decide) (backOf (W := 1) (rmmx2 l Z a0 hw [] (0 : Int32) (8 : Int32) h75 n0 zs87 (by decide)) hZ (own_w hw (i := 48) rfl) (own_w hw (i := 47) rfl) (by decide) (by decide)) (g := (mkF m 95 #[uR a1, uL q2, uS, uI 2] [(.int 8), (.int 0), (.ref a1)])) rfl (by rw [hml]; rfl) (argsL := [(.int 0), (.int 8)]) (rest := [(.ref a1)]) (lenOf pd_47 rfl) rfl (by show 2 * 0 + _ ≤ _; exact Nat.le_of_eq rfl) (hb hby d3_95) (fun _ _ => ⟨rfl, e89, (by decide : 0 + 0 ≤ _), (by decide : 0 + 0 ≤ _)⟩)
  dsimp only [Pt.U, Pt.locs, Pt.cells, Pt.slots] at X90 l90 y90 z90 st90 hQ90
  subst y90 z90
  obtain ⟨rfl, N90q, e90⟩ := hQ90
  have N91 : Fr n0 L90 := by rw [l90]; exact Fr.app N75 N90q
  -- pc 98: BatchIndex.resize by rmrz8
  obtain ⟨cq92, qc92, qc92'⟩ := f76.cell
  obtain ⟨_, _, ⟨T92, L92, ck92, cn92⟩, -, X92, ⟨Lc92, hQ92, l92, y92, z92⟩, st92⟩ := X90.privateBack hx (y := (⟨KC, "resize", "(I)V"⟩ : MethodName)) hown (mvT hZ (own_w hw (i := 49) rfl)) (mvT hZ (own_w hw (i := 50) rfl)) (own_sel (y := (⟨KC, "resize", "(I)V"⟩ : MethodName)) (mvT hZ (own_w hw (i := 1) rfl)) (Cond.privateMethod_at (mvP hZ (own_w hw (i := 51) rfl) (args := #[]))) (mvT hZ (own_w hw (i := 50) rfl)) (by decide)) (Cond.privateMethod_at (mvP hZ (own_w hw (i := 51) rfl) (args := #[]))) (mvT hZ (own_w hw (i := 52) rfl)) (by decide) (backOf (W := 0) (rmrz8 l Z a0 hw [] a1 aB aP aM kB kP kM (0 : Int32) (2 : Int64) b0 b1 b2 b3 b4 b5 b6 b7 (10 : Int64) (20 : Int64) (0 : Int64) (0 : Int64) (0 : Int64) (0 : Int64) (0 : Int64) (0 : Int64) x0 x1 x2 x3 x4 x5 x6 x7 h75 n0 zs87 f76 f80 f81 f77 f78 f79 f85 f86 Vx75 f82 f83 f84 g_a1 ne_a1_aB ne_a1_aP ne_a1_aM ne_aB_aP ne_aB_aM ne_aP_aM) hZ (own_w hw (i := 52) rfl) (own_w hw (i := 2) rfl) (by decide) (by decide)) (g := (mkF m 98 #[uR a1, uL q2, uS, uI 2] [(.int 8), (.ref a1)])) rfl (by rw [hml]; rfl) (Steps.refl _) (a := a1) (by rw [e90]; exact qc92) qc92' (argsL := [(.int 8)]) (rest := []) (lenOf pd_114 rfl) rfl (by show 2 * 0 + _ ≤ _; exact Nat.le_of_eq rfl) (hb hby d3_98) (fun _ _ => ⟨rfl, e90, (by decide : 0 + 3 ≤ _), (by decide : 0 + 24 ≤ _)⟩)
  dsimp only [Pt.U, Pt.locs, Pt.cells, Pt.slots] at X92 l92 y92 z92 st92 hQ92
  subst y92 z92
  obtain ⟨n1_92, kn1_92, n2_92, kn2_92, n3_92, kn3_92, rfl, N92q, K92q, gq92_0, gq92_1, gq92_2, sq92_0, sq92_1, sq92_2, nq92_1_0, nq92_2_0, nq92_2_1, o92_0, o92_1, o92_2, o92_3, o92_4, o92_5, o92_6, o92_7, o92_8, o92_9, o92_10, o92_11⟩ := hQ92
  have N93 : Fr n0 L92 := by rw [l92]; exact Fr.app N91 N92q
  have sz_n1_92 : h0.size ≤ n1_92 := Nat.le_trans K88.1 sq92_0
  have sz_n2_92 : h0.size ≤ n2_92 := Nat.le_trans K88.1 sq92_1
  have sz_n3_92 : h0.size ≤ n3_92 := Nat.le_trans K88.1 sq92_2
  have K119 := K88.trans K92q (allS (Or.inl (List.mem_of_getElem? (i := 0) rfl)) all0)
  obtain ⟨fs, hr, hrun, hended, hW, hsame⟩ := X92.leave (v := none) (fun _ => rfl) Bd.notSynchronized
  refine ⟨_, _, pre0 _ ?_, hrun, hended, _, _, rfl, ?_, ⟨_, rfl⟩, hW, hsame.mono (by decide) (by decide)⟩
  · show Steps p.tables e below (s₁.setTop (mkF m 0 #[uR a1, uL q2, uS, uU] [])) _
    refine XS.aloadN X0.here hx rfl (hb hby d3_0) rfl rfl ?_
    refine XS.aloadN X0.here hx rfl (hb hby d3_1) rfl rfl ?_
    refine st1 _ ?_
    refine XS.lloadN X1.here hx rfl (hb hby d3_5) rfl ?_
    refine XS.lconst X1.here hx rfl (hb hby d3_6) ?_
    refine XS.lsub X1.here hx rfl (hb hby d3_7) rfl ?_
    refine st2.trans ?_
    refine XS.iconst X2.here hx rfl (hb hby d3_11) ?_
    refine XS.iadd X2.here hx rfl (hb hby d3_12) rfl ?_
    refine XS.istoreN X2.here hx rfl (hb hby d3_13) rfl (l' := #[uR a1, uL q2, uS, uI 2]) rfl ?_
    refine XS.aloadN X2.here hx rfl (hb hby d3_14) rfl rfl ?_
    refine XS.dup X2.here hx rfl (hb hby d3_15) rfl rfl ?_
    refine st4 _ ?_
    refine XS.iloadN X4.here hx rfl (hb hby d3_19) rfl ?_
    refine XS.isub X4.here hx rfl (hb hby d3_20) rfl ?_
    refine st5 _ ?_
    show Steps p.tables e below (T5.setTop (mkF m 24 #[uR a1, uL q2, uS, uI 2] [])) _
    refine XS.aloadN X5.here hx rfl (hb hby d3_24) rfl rfl ?_
    refine XS.dup X5.here hx rfl (hb hby d3_25) rfl rfl ?_
    refine st21 _ ?_
    refine XS.iloadN X21.here hx rfl (hb hby d3_29) rfl ?_
    refine XS.i2l X21.here hx rfl (hb hby d3_30) rfl ?_
    refine XS.ladd X21.here hx rfl (hb hby d3_31) rfl ?_
    refine st22 _ ?_
    refine XS.aloadN X22.here hx rfl (hb hby d3_35) rfl rfl ?_
    refine st38 _ ?_
    refine XS.iloadN X38.here hx rfl (hb hby d3_39) rfl ?_
    refine XS.aloadN X38.here hx rfl (hb hby d3_40) rfl rfl ?_
    refine st39 _ ?_
    refine XS.iconst X39.here hx rfl (hb hby d3_44) ?_
    refine XS.aloadN X39.here hx rfl (hb hby d3_45) rfl rfl ?_
    refine st40 _ ?_
    refine st41 _ ?_
    show Steps p.tables e below (T41.setTop (mkF m 52 #[uR a1, uL q2, uS, uI 2] [])) _
    refine XS.aloadN X41.here hx rfl (hb hby d3_52) rfl rfl ?_
    refine st55 _ ?_
    refine XS.iloadN X55.here hx rfl (hb hby d3_56) rfl ?_
    refine XS.aloadN X55.here hx rfl (hb hby d3_57) rfl rfl ?_
    refine st56 _ ?_
    refine XS.iconst X56.here hx rfl (hb hby d3_61) ?_
    refine XS.aloadN X56.here hx rfl (hb hby d3_62) rfl rfl ?_
    refine st57 _ ?_
    refine st58 _ ?_
    refine XS.aloadN X58.here hx rfl (hb hby d3_69) rfl rfl ?_
    refine st72 _ ?_
    refine XS.iloadN X72.here hx rfl (hb hby d3_73) rfl ?_
    refine XS.aloadN X72.here hx rfl (hb hby d3_74) rfl rfl ?_
    refine st73 _ ?_
    refine XS.iconst X73.here hx rfl (hb hby d3_78) ?_
    refine XS.aloadN X73.here hx rfl (hb hby d3_79) rfl rfl ?_
    show Steps p.tables e below (T73.setTop (mkF m 80 #[uR a1, uL q2, uS, uI 2] [(.ref a1), (.int 0), (.ref aM), (.int 2), (.ref aM)])) _
    refine st74 _ ?_
    refine st75 _ ?_
    refine XS.aloadN X75.here hx rfl (hb hby d3_86) rfl rfl ?_
    refine XS.aloadN X75.here hx rfl (hb hby d3_87) rfl rfl ?_
    refine st89 _ ?_
    refine XS.iconst X89.here hx rfl (hb hby d3_91) ?_
    refine XS.imul X89.here hx rfl (hb hby d3_92) rfl ?_
    refine XS.bipush X89.here hx rfl (hb hby d3_93) ?_
    refine st90 _ ?_
    refine st92.trans ?_
    exact X92.returnOut hx Bd.returns (hb hby d3_101) hr
  · show Qdr22 Z a1 q2 aB aP aM kB kP kM b0 b1 b2 b3 b4 b5 b6 b7 x0 x1 x2 x3 x4 x5 x6 x7 h0 n0 _ T92.heap _
    exact ⟨n1_92, kn1_92, n2_92, kn2_92, n3_92, kn3_92, rfl, N93, K119, gq92_0, gq92_1, gq92_2, sz_n1_92, sz_n2_92, sz_n3_92, nq92_1_0, nq92_2_0, nq92_2_1, o92_0, o92_4, o92_5, o92_3, o92_10⟩
theorem ef_dr30 (m : MethodId) (x0 : Addr) (x1 : Int64) : entryFrame m #[(.ref x0), (.long x1)] 4 = mkF m 0 #[.val (.ref x0), .val (.long x1), .second, .unset] [] := by first | (simp [entryFrame, mkF, argsToLocals, Value.category]; done) | rfl
abbrev R_dr30 : Room := { frames := 3, cells := 3, slots := 24, locals := 56 }
def Qdr30 (Z : State) (a1 : Addr) (q2 : Int64) (aB : Addr) (aP : Addr) (aM : Addr) (kB : ClassId) (kP : ClassId) (kM : ClassId) (b0 : Int64) (b1 : Int64) (b2 : Int64) (b3 : Int64) (b4 : Int64) (b5 : Int64) (b6 : Int64) (b7 : Int64) (x0 : Int64) (x1 : Int64) (x2 : Int64) (x3 : Int64) (x4 : Int64) (x5 : Int64) (x6 : Int64) (x7 : Int64) (h0 : Heap) (n0 : Nat) (v : Option Value) (h : Heap) (L : List Loc) : Prop := ∃ (n1 : Addr) (kn1 : ClassId) (n2 : Addr) (kn2 : ClassId) (n3 : Addr) (kn3 : ClassId), v = none ∧ Fr n0 L ∧ Keep h0 h [a1, aB, aP, aM] ∧ n0 ≤ n1 ∧ n0 ≤ n2 ∧ n0 ≤ n3 ∧ h0.size ≤ n1 ∧ h0.size ≤ n2 ∧ h0.size ≤ n3 ∧ n2 ≠ n1 ∧ n3 ≠ n1 ∧ n3 ≠ n2 ∧ Exa Z h a1 KC ∧ Fld Z h a1 KC "count" "I" (.int 3) ∧ Fld Z h a1 KC "first" "J" (.long 0) ∧ Fld Z h a1 KC KM "[J" (.ref n3) ∧ Arv Z h n3 kn3 .long (8 : Int32) [(.long x0), (.long x1), (.long x2), (.long x3), (.long x4), (.long x5), (.long x6), (.long x7)] (.long 0)
set_option maxRecDepth 65536 in
set_option maxHeartbeats 40000000 in
theorem rmdr30 (l : Launch) (Z : State) (a0 : Array Value) (hw : ∀ d ∈ tables_1, d.before a0 Z = true) (ws : List Jvm.Cond) (a1 : Addr) (q2 : Int64) (aB : Addr) (aP : Addr) (aM : Addr) (kB : ClassId) (kP : ClassId) (kM : ClassId) (b0 : Int64) (b1 : Int64) (b2 : Int64) (b3 : Int64) (b4 : Int64) (b5 : Int64) (b6 : Int64) (b7 : Int64) (x0 : Int64) (x1 : Int64) (x2 : Int64) (x3 : Int64) (x4 : Int64) (x5 : Int64) (x6 : Int64) (x7 : Int64) (h0 : Heap) (n0 : Nat) (Z0 : n0 ≤ h0.size) (E_a1 : Exa Z h0 a1 KC) (F_baseOffsets_a1 : Fld Z h0 a1 KC KB "[J" (.ref aB)) (F_positions_a1 : Fld Z h0 a1 KC KP "[J" (.ref aP)) (F_maxTimestampsSoFar_a1 : Fld Z h0 a1 KC KM "[J" (.ref aM)) (F_count_a1 : Fld Z h0 a1 KC "count" "I" (.int 3)) (F_first_a1 : Fld Z h0 a1 KC "first" "J" (.long 0)) (V_aB : Arv Z h0 aB kB .long (8 : Int32) [(.long b0), (.long b1), (.long b2), (.long b3), (.long b4), (.long b5), (.long b6), (.long b7)] (.long 0)) (V_aP : Arv Z h0 aP kP .long (8 : Int32) [(.long 10), (.long 20), (.long 30), (.long 0), (.long 0), (.long 0), (.long 0), (.long 0)] (.long 0)) (V_aM : Arv Z h0 aM kM .long (8 : Int32) [(.long x0), (.long x1), (.long x2), (.long x3), (.long x4), (.long x5), (.long x6), (.long x7)] (.long 0)) (E_aB : Exa Z h0 aB "[J") (E_aP : Exa Z h0 aP "[J") (E_aM : Exa Z h0 aM "[J") (g_a1 : n0 ≤ a1) (g_aB : n0 ≤ aB) (g_aP : n0 ≤ aP) (g_aM : n0 ≤ aM) (ne_a1_aB : a1 ≠ aB) (ne_a1_aP : a1 ≠ aP) (ne_a1_aM : a1 ≠ aM) (ne_aB_aP : aB ≠ aP) (ne_aB_aM : aB ≠ aM) (ne_aP_aM : aP ≠ aM) (hk : (fla_3 (q2 - (1 : Int64))) = (-1 : Int32)) :
    MetFree l (⟨KC, "dropBefore", "(J)V"⟩ : MethodName) (head1 (Jvm.Cond.code (⟨KC, "dropBefore", "(J)V"⟩ : MethodName) prog_126_method_11_code 4 none :: ws) R_dr30) (fun a U => a = #[(.ref a1), (.long q2)] ∧ Z.Warmed39 U.vm ∧ U.heap = h0) (fun _ _ _ _ _ => True) (fun _ U o U' => ∃ v L, o = .returned v ∧ Qdr30 Z a1 q2 aB aP aM kB kP kM b0 b1 b2 b3 b4 b5 b6 b7 x0 x1 x2 x3 x4 x5 x6 x7 h0 n0 v U'.heap L ∧ FrameEnd U o U' L R_dr30.cells R_dr30.slots) := by
  refine MetFree.of_bodySF (plainFor_of_name pn_55) hisR ?_
  intro p e s m args below meth c s₁ Bd hml0 hP hK
  obtain ⟨rfl, hZ, hh⟩ := hP
  have hx := Bd.exec
  have hby := Bd.bytes
  have hml : c.maxLocals = 4 := hml0
  have hown : s.vm.findClass KC = some m.cls := findClass_of_methodNamed Bd.named
  have hnm := (name_of_methodNamed Bd.named Bd.method).1
  have X0 : Stand p l e R_dr30 s m #[(.ref a1), (.long q2)] below meth c s₁ [] 0 0 := Stand.of_body Bd
  have e0 : s₁.heap = h0 := by rw [← hh, Bd.state]; rfl
  have N0 := Fr.nil n0
  have pre0 : ∀ t, Steps p.tables e below (s₁.setTop (mkF m 0 #[uR a1, uL q2, uS, uU] [])) t → Steps p.tables e below (s₁.setTop (entryFrame m #[(.ref a1), (.long q2)] 4)) t := fun t k => castTop (ef_dr30 m a1 q2) k
  obtain ⟨T1, X1, e1, st1⟩ := getF X0 hx hZ hown (host := "") (Or.inl (own_w hw (i := 13) rfl)) Via.refl e0 F_positions_a1 (g := (mkF m 2 #[uR a1, uL q2, uS, uU] [(.ref a1), (.ref a1)])) rfl rfl (hb hby d3_2)
  -- pc 8: BatchIndex.lastAtOrBefore by rmla_3
  obtain ⟨cq2, qc2, qc2'⟩ := E_a1.cell
  obtain ⟨_, _, ⟨T2, L2, ck2, cn2⟩, -, X2, ⟨Lc2, hQ2, l2, y2, z2⟩, st2⟩ := X1.privateBack hx (y := (⟨KC, "lastAtOrBefore", "([JJ)I"⟩ : MethodName)) hown (mvT hZ (own_w hw (i := 23) rfl)) (mvT hZ (own_w hw (i := 24) rfl)) (own_sel (y := (⟨KC, "lastAtOrBefore", "([JJ)I"⟩ : MethodName)) (mvT hZ (own_w hw (i := 1) rfl)) (Cond.privateMethod_at (mvP hZ (own_w hw (i := 25) rfl) (args := #[]))) (mvT hZ (own_w hw (i := 24) rfl)) (by decide)) (Cond.privateMethod_at (mvP hZ (own_w hw (i := 25) rfl) (args := #[]))) (mvT hZ (own_w hw (i := 26) rfl)) (by decide) (backOf (W := 0) (rmla_3 l Z a0 hw [] a1 aP (q2 - (1 : Int64)) kP (-1 : Int32) h0 n0 Z0 F_count_a1 V_aP hk) hZ (own_w hw (i := 26) rfl) (own_w hw (i := 2) rfl) (by decide) (by decide)) (g := (mkF m 8 #[uR a1, uL q2, uS, uU] [(.long (q2 - (1 : Int64))), (.ref aP), (.ref a1)])) rfl (by rw [hml]; rfl) (Steps.refl _) (a := a1) (by rw [e1]; exact qc2) qc2' (argsL := [(.ref aP), (.long (q2 - (1 : Int64)))]) (rest := []) (lenOf pd_239 rfl) rfl (by show 2 * 0 + _ ≤ _; exact Nat.le_of_eq rfl) (hb hby d3_8) (fun _ _ => ⟨rfl, e1, (by decide : 0 + 0 ≤ _), (by decide : 0 + 0 ≤ _)⟩)
  dsimp only [Pt.U, Pt.locs, Pt.cells, Pt.slots] at X2 l2 y2 z2 st2 hQ2
  subst y2 z2
  obtain ⟨rfl, N2q, e2⟩ := hQ2
  have N3 : Fr n0 L2 := by rw [l2]; exact Fr.app N0 N2q
  obtain ⟨T4, X4, e4, st4⟩ := getF X2 hx hZ hown (host := "") (Or.inl (own_w hw (i := 27) rfl)) Via.refl e2 F_count_a1 (g := (mkF m 16 #[uR a1, uL q2, uS, uI 0] [(.ref a1), (.ref a1)])) rfl rfl (hb hby d3_16)
  obtain ⟨T5, h5, X5, e5, W5, st5⟩ := putF X4 hx hZ hown (host := "") (Or.inl (own_w hw (i := 27) rfl)) Via.refl e4 F_count_a1 E_a1 (Or.inl (own_w hw (i := 28) rfl)) (own_w hw (i := 1) rfl) (ty := .int) (by decide) rfl rfl (g := (mkF m 21 #[uR a1, uL q2, uS, uI 0] [(.int 3), (.ref a1)])) rfl rfl (hb hby d3_21)
  have f6 := E_a1.wr W5
  have f7 := F_baseOffsets_a1.other W5 (Or.inr (sn_143 hw))
  have f8 := F_positions_a1.other W5 (Or.inr (sn_144 hw))
  have f9 := F_maxTimestampsSoFar_a1.other W5 (Or.inr (sn_145 hw))
  have f10 := F_count_a1.same W5
  have f11 := F_first_a1.other W5 (Or.inr (sn_146 hw))
  have f12 := V_aB.other W5 (Ne.symm ne_a1_aB)
  have f13 := V_aP.other W5 (Ne.symm ne_a1_aP)
  have f14 := V_aM.other W5 (Ne.symm ne_a1_aM)
  have f15 := E_aB.wr W5
  have f16 := E_aP.wr W5
  have f17 := E_aM.wr W5
  have K18 := (Keep.refl h0 [a1, aB, aP, aM]).wr W5 (Or.inl (List.mem_of_getElem? (i := 0) rfl))
  have zs19 : n0 ≤ h5.size := Nat.le_trans Z0 (Keep.of_wr W5).1
  have N20 := Fr.snoc X5 N3 g_a1
  obtain ⟨T21, X21, e21, st21⟩ := getF X5 hx hZ hown (host := "") (Or.inl (own_w hw (i := 39) rfl)) Via.refl e5 f11 (g := (mkF m 26 #[uR a1, uL q2, uS, uI 0] [(.ref a1), (.ref a1)])) rfl rfl (hb hby d3_26)
  obtain ⟨T22, h22, X22, e22, W22, st22⟩ := putF X21 hx hZ hown (host := "") (Or.inl (own_w hw (i := 39) rfl)) Via.refl e21 f11 f6 (Or.inl (own_w hw (i := 40) rfl)) (own_w hw (i := 1) rfl) (ty := .long) (by decide) rfl rfl (g := (mkF m 32 #[uR a1, uL q2, uS, uI 0] [(.long 0), (.ref a1)])) rfl rfl (hb hby d3_32)
  have f23 := f6.wr W22
  have f24 := f7.other W22 (Or.inr (sn_256 hw))
  have f25 := f8.other W22 (Or.inr (sn_257 hw))
  have f26 := f9.other W22 (Or.inr (sn_258 hw))
  have f27 := f10.other W22 (Or.inr (sn_259 hw))
  have f28 := f11.same W22
  have f29 := f12.other W22 (Ne.symm ne_a1_aB)
  have f30 := f13.other W22 (Ne.symm ne_a1_aP)
  have f31 := f14.other W22 (Ne.symm ne_a1_aM)
  have f32 := f15.wr W22
  have f33 := f16.wr W22
  have f34 := f17.wr W22
  have K35 := K18.wr W22 (Or.inl (List.mem_of_getElem? (i := 0) rfl))
  have zs36 : n0 ≤ h22.size := Nat.le_trans zs19 (Keep.of_wr W22).1
  have N37 := Fr.snoc X22 N20 g_a1
  obtain ⟨T38, X38, e38, st38⟩ := getF X22 hx hZ hown (host := "") (Or.inl (own_w hw (i := 11) rfl)) Via.refl e22 f24 (g := (mkF m 36 #[uR a1, uL q2, uS, uI 0] [(.ref a1)])) rfl rfl (hb hby d3_36)
  obtain ⟨T39, X39, e39, st39⟩ := getF X38 hx hZ hown (host := "") (Or.inl (own_w hw (i := 11) rfl)) Via.refl e38 f24 (g := (mkF m 41 #[uR a1, uL q2, uS, uI 0] [(.ref a1), (.int 0), (.ref aB)])) rfl rfl (hb hby d3_41)
  obtain ⟨T40, X40, e40, st40⟩ := getF X39 hx hZ hown (host := "") (Or.inl (own_w hw (i := 27) rfl)) Via.refl e39 f27 (g := (mkF m 46 #[uR a1, uL q2, uS, uI 0] [(.ref a1), (.int 0), (.ref aB), (.int 0), (.ref aB)])) rfl rfl (hb hby d3_46)
  obtain ⟨T41, h41, L41, X41, e41, N41, Kc41, V41, st41⟩ := cpA X40 hx hZ hown (own_w hw (i := 41) rfl) (own_w hw (i := 44) rfl) (own_w hw (i := 42) rfl) (own_w hw (i := 43) rfl) e40 f29 f29 (sp := (0 : Int32)) (dp := (0 : Int32)) (nn := (3 : Int32)) (us := [(.long b0), (.long b1), (.long b2)]) (Or.inl ⟨rfl, rfl⟩) (by decide) (by decide) (by decide) (by decide) (by decide) rfl (Nat.le_of_ble_eq_true rfl) N37 g_aB (g := (mkF m 49 #[uR a1, uL q2, uS, uI 0] [(.int 3), (.int 0), (.ref aB), (.int 0), (.ref aB)])) rfl (by rw [hml]; rfl) rfl (hb hby d3_49) (by decide) (W := 0) (by show 2 * 0 + _ ≤ _; exact Nat.le_of_eq rfl) (by decide)
  have Kd41 : Keep h22 h41 [aB] := Kc41
  have f42 := f23.keep Kd41
  have f43 := f24.keep Kd41 (ninS ne_a1_aB nin0)
  have f44 := f25.keep Kd41 (ninS ne_a1_aB nin0)
  have f45 := f26.keep Kd41 (ninS ne_a1_aB nin0)
  have f46 := f27.keep Kd41 (ninS ne_a1_aB nin0)
  have f47 := f28.keep Kd41 (ninS ne_a1_aB nin0)
  have f48 := f30.keep Kd41 (ninS (Ne.symm ne_aB_aP) nin0)
  have f49 := f31.keep Kd41 (ninS (Ne.symm ne_aB_aM) nin0)
  have f50 := f32.keep Kd41
  have f51 := f33.keep Kd41
  have f52 := f34.keep Kd41
  have zs53 : n0 ≤ h41.size := Nat.le_trans zs36 Kd41.1
  have K54 := K35.trans Kd41 (allS (Or.inl (List.mem_of_getElem? (i := 1) rfl)) all0)
  have Vx41 : Arv Z h41 aB kB .long (8 : Int32) [(.long b0), (.long b1), (.long b2), (.long b3), (.long b4), (.long b5), (.long b6), (.long b7)] (.long 0) := V41
  obtain ⟨T55, X55, e55, st55⟩ := getF X41 hx hZ hown (host := "") (Or.inl (own_w hw (i := 13) rfl)) Via.refl e41 f44 (g := (mkF m 53 #[uR a1, uL q2, uS, uI 0] [(.ref a1)])) rfl rfl (hb hby d3_53)
  obtain ⟨T56, X56, e56, st56⟩ := getF X55 hx hZ hown (host := "") (Or.inl (own_w hw (i := 13) rfl)) Via.refl e55 f44 (g := (mkF m 58 #[uR a1, uL q2, uS, uI 0] [(.ref a1), (.int 0), (.ref aP)])) rfl rfl (hb hby d3_58)
  obtain ⟨T57, X57, e57, st57⟩ := getF X56 hx hZ hown (host := "") (Or.inl (own_w hw (i := 27) rfl)) Via.refl e56 f46 (g := (mkF m 63 #[uR a1, uL q2, uS, uI 0] [(.ref a1), (.int 0), (.ref aP), (.int 0), (.ref aP)])) rfl rfl (hb hby d3_63)
  obtain ⟨T58, h58, L58, X58, e58, N58, Kc58, V58, st58⟩ := cpA X57 hx hZ hown (own_w hw (i := 41) rfl) (own_w hw (i := 44) rfl) (own_w hw (i := 42) rfl) (own_w hw (i := 43) rfl) e57 f48 f48 (sp := (0 : Int32)) (dp := (0 : Int32)) (nn := (3 : Int32)) (us := [(.long 10), (.long 20), (.long 30)]) (Or.inl ⟨rfl, rfl⟩) (by decide) (by decide) (by decide) (by decide) (by decide) rfl (Nat.le_of_ble_eq_true rfl) N41 g_aP (g := (mkF m 66 #[uR a1, uL q2, uS, uI 0] [(.int 3), (.int 0), (.ref aP), (.int 0), (.ref aP)])) rfl (by rw [hml]; rfl) rfl (hb hby d3_66) (by decide) (W := 0) (by show 2 * 0 + _ ≤ _; exact Nat.le_of_eq rfl) (by decide)
  have Kd58 : Keep h41 h58 [aP] := Kc58
  have f59 := f42.keep Kd58
  have f60 := f43.keep Kd58 (ninS ne_a1_aP nin0)
  have f61 := f44.keep Kd58 (ninS ne_a1_aP nin0)
  have f62 := f45.keep Kd58 (ninS ne_a1_aP nin0)
  have f63 := f46.keep Kd58 (ninS ne_a1_aP nin0)
  have f64 := f47.keep Kd58 (ninS ne_a1_aP nin0)
  have f65 := f49.keep Kd58 (ninS (Ne.symm ne_aP_aM) nin0)
  have f66 := f50.keep Kd58
  have f67 := f51.keep Kd58
  have f68 := f52.keep Kd58
  have f69 := Vx41.keep Kd58 (ninS ne_aB_aP nin0)
  have zs70 : n0 ≤ h58.size := Nat.le_trans zs53 Kd58.1
  have K71 := K54.trans Kd58 (allS (Or.inl (List.mem_of_getElem? (i := 2) rfl)) all0)
  have Vx58 : Arv Z h58 aP kP .long (8 : Int32) [(.long 10), (.long 20), (.long 30), (.long 0), (.long 0), (.long 0), (.long 0), (.long 0)] (.long 0) := V58
  obtain ⟨T72, X72, e72, st72⟩ := getF X58 hx hZ hown (host := "") (Or.inl (own_w hw (i := 15) rfl)) Via.refl e58 f62 (g := (mkF m 70 #[uR a1, uL q2, uS, uI 0] [(.ref a1)])) rfl rfl (hb hby d3_70)
  obtain ⟨T73, X73, e73, st73⟩ := getF X72 hx hZ hown (host := "") (Or.inl (own_w hw (i := 15) rfl)) Via.refl e72 f62 (g := (mkF m 75 #[uR a1, uL q2, uS, uI 0] [(.ref a1), (.int 0), (.ref aM)])) rfl rfl (hb hby d3_75)
  obtain ⟨T74, X74, e74, st74⟩ := getF X73 hx hZ hown (host := "") (Or.inl (own_w hw (i := 27) rfl)) Via.refl e73 f63 (g := (mkF m 80 #[uR a1, uL q2, uS, uI 0] [(.ref a1), (.int 0), (.ref aM), (.int 0), (.ref aM)])) rfl rfl (hb hby d3_80)
  obtain ⟨T75, h75, L75, X75, e75, N75, Kc75, V75, st75⟩ := cpA X74 hx hZ hown (own_w hw (i := 41) rfl) (own_w hw (i := 44) rfl) (own_w hw (i := 42) rfl) (own_w hw (i := 43) rfl) e74 f65 f65 (sp := (0 : Int32)) (dp := (0 : Int32)) (nn := (3 : Int32)) (us := [(.long x0), (.long x1), (.long x2)]) (Or.inl ⟨rfl, rfl⟩) (by decide) (by decide) (by decide) (by decide) (by decide) rfl (Nat.le_of_ble_eq_true rfl) N58 g_aM (g := (mkF m 83 #[uR a1, uL q2, uS, uI 0] [(.int 3), (.int 0), (.ref aM), (.int 0), (.ref aM)])) rfl (by rw [hml]; rfl) rfl (hb hby d3_83) (by decide) (W := 0) (by show 2 * 0 + _ ≤ _; exact Nat.le_of_eq rfl) (by decide)
  have Kd75 : Keep h58 h75 [aM] := Kc75
  have f76 := f59.keep Kd75
  have f77 := f60.keep Kd75 (ninS ne_a1_aM nin0)
  have f78 := f61.keep Kd75 (ninS ne_a1_aM nin0)
  have f79 := f62.keep Kd75 (ninS ne_a1_aM nin0)
  have f80 := f63.keep Kd75 (ninS ne_a1_aM nin0)
  have f81 := f64.keep Kd75 (ninS ne_a1_aM nin0)
  have f82 := f66.keep Kd75
  have f83 := f67.keep Kd75
  have f84 := f68.keep Kd75
  have f85 := f69.keep Kd75 (ninS ne_aB_aM nin0)
  have f86 := Vx58.keep Kd75 (ninS ne_aP_aM nin0)
  have zs87 : n0 ≤ h75.size := Nat.le_trans zs70 Kd75.1
  have K88 := K71.trans Kd75 (allS (Or.inl (List.mem_of_getElem? (i := 3) rfl)) all0)
  have Vx75 : Arv Z h75 aM kM .long (8 : Int32) [(.long x0), (.long x1), (.long x2), (.long x3), (.long x4), (.long x5), (.long x6), (.long x7)] (.long 0) := V75
  obtain ⟨T89, X89, e89, st89⟩ := getF X75 hx hZ hown (host := "") (Or.inl (own_w hw (i := 27) rfl)) Via.refl e75 f80 (g := (mkF m 88 #[uR a1, uL q2, uS, uI 0] [(.ref a1), (.ref a1)])) rfl rfl (hb hby d3_88)
  -- pc 95: Math.max by rmmx2
  obtain ⟨_, _, ⟨T90, L90, ck90, cn90⟩, -, X90, ⟨Lc90, hQ90, l90, y90, z90⟩, st90⟩ := Jvm.LawKit.callS X89 hx (y := (⟨"java/lang/Math", "max", "(II)I"⟩ : MethodName)) hown (mvT hZ (own_w hw (i := 45) rfl)) (mvT hZ (own_w hw (i := 46) rfl)) (mvT hZ (own_w hw (i := 47) rfl)) (mvT hZ (own_w hw (i := 48) rfl)) (by decide) (backOf (W := 1) (rmmx2 l Z a0 hw [] (6 : Int32) (8 : Int32) h75 n0 zs87 (by decide)) hZ (own_w hw (i := 48) rfl) (own_w hw (i := 47) rfl) (by decide) (by decide)) (g := (mkF m 95 #[uR a1, uL q2, uS, uI 0] [(.int 8), (.int 6), (.ref a1)])) rfl (by rw [hml]; rfl) (argsL := [(.int 6), (.int 8)]) (rest := [(.ref a1)]) (lenOf pd_47 rfl) rfl (by show 2 * 0 + _ ≤ _; exact Nat.le_of_eq rfl) (hb hby d3_95) (fun _ _ => ⟨rfl, e89, (by decide : 0 + 0 ≤ _), (by decide : 0 + 0 ≤ _)⟩)
  dsimp only [Pt.U, Pt.locs, Pt.cells, Pt.slots] at X90 l90 y90 z90 st90 hQ90
  subst y90 z90
  obtain ⟨rfl, N90q, e90⟩ := hQ90
  have N91 : Fr n0 L90 := by rw [l90]; exact Fr.app N75 N90q
  -- pc 98: BatchIndex.resize by rmrz8
  obtain ⟨cq92, qc92, qc92'⟩ := f76.cell
  obtain ⟨_, _, ⟨T92, L92, ck92, cn92⟩, -, X92, ⟨Lc92, hQ92, l92, y92, z92⟩, st92⟩ := X90.privateBack hx (y := (⟨KC, "resize", "(I)V"⟩ : MethodName)) hown (mvT hZ (own_w hw (i := 49) rfl)) (mvT hZ (own_w hw (i := 50) rfl)) (own_sel (y := (⟨KC, "resize", "(I)V"⟩ : MethodName)) (mvT hZ (own_w hw (i := 1) rfl)) (Cond.privateMethod_at (mvP hZ (own_w hw (i := 51) rfl) (args := #[]))) (mvT hZ (own_w hw (i := 50) rfl)) (by decide)) (Cond.privateMethod_at (mvP hZ (own_w hw (i := 51) rfl) (args := #[]))) (mvT hZ (own_w hw (i := 52) rfl)) (by decide) (backOf (W := 0) (rmrz8 l Z a0 hw [] a1 aB aP aM kB kP kM (3 : Int32) (0 : Int64) b0 b1 b2 b3 b4 b5 b6 b7 (10 : Int64) (20 : Int64) (30 : Int64) (0 : Int64) (0 : Int64) (0 : Int64) (0 : Int64) (0 : Int64) x0 x1 x2 x3 x4 x5 x6 x7 h75 n0 zs87 f76 f80 f81 f77 f78 f79 f85 f86 Vx75 f82 f83 f84 g_a1 ne_a1_aB ne_a1_aP ne_a1_aM ne_aB_aP ne_aB_aM ne_aP_aM) hZ (own_w hw (i := 52) rfl) (own_w hw (i := 2) rfl) (by decide) (by decide)) (g := (mkF m 98 #[uR a1, uL q2, uS, uI 0] [(.int 8), (.ref a1)])) rfl (by rw [hml]; rfl) (Steps.refl _) (a := a1) (by rw [e90]; exact qc92) qc92' (argsL := [(.int 8)]) (rest := []) (lenOf pd_114 rfl) rfl (by show 2 * 0 + _ ≤ _; exact Nat.le_of_eq rfl) (hb hby d3_98) (fun _ _ => ⟨rfl, e90, (by decide : 0 + 3 ≤ _), (by decide : 0 + 24 ≤ _)⟩)
  dsimp only [Pt.U, Pt.locs, Pt.cells, Pt.slots] at X92 l92 y92 z92 st92 hQ92
  subst y92 z92
  obtain ⟨n1_92, kn1_92, n2_92, kn2_92, n3_92, kn3_92, rfl, N92q, K92q, gq92_0, gq92_1, gq92_2, sq92_0, sq92_1, sq92_2, nq92_1_0, nq92_2_0, nq92_2_1, o92_0, o92_1, o92_2, o92_3, o92_4, o92_5, o92_6, o92_7, o92_8, o92_9, o92_10, o92_11⟩ := hQ92
  have N93 : Fr n0 L92 := by rw [l92]; exact Fr.app N91 N92q
  have sz_n1_92 : h0.size ≤ n1_92 := Nat.le_trans K88.1 sq92_0
  have sz_n2_92 : h0.size ≤ n2_92 := Nat.le_trans K88.1 sq92_1
  have sz_n3_92 : h0.size ≤ n3_92 := Nat.le_trans K88.1 sq92_2
  have K119 := K88.trans K92q (allS (Or.inl (List.mem_of_getElem? (i := 0) rfl)) all0)
  obtain ⟨fs, hr, hrun, hended, hW, hsame⟩ := X92.leave (v := none) (fun _ => rfl) Bd.notSynchronized
  refine ⟨_, _, pre0 _ ?_, hrun, hended, _, _, rfl, ?_, ⟨_, rfl⟩, hW, hsame.mono (by decide) (by decide)⟩
  · show Steps p.tables e below (s₁.setTop (mkF m 0 #[uR a1, uL q2, uS, uU] [])) _
    refine XS.aloadN X0.here hx rfl (hb hby d3_0) rfl rfl ?_
    refine XS.aloadN X0.here hx rfl (hb hby d3_1) rfl rfl ?_
    refine st1 _ ?_
    refine XS.lloadN X1.here hx rfl (hb hby d3_5) rfl ?_
    refine XS.lconst X1.here hx rfl (hb hby d3_6) ?_
    refine XS.lsub X1.here hx rfl (hb hby d3_7) rfl ?_
    refine st2.trans ?_
    refine XS.iconst X2.here hx rfl (hb hby d3_11) ?_
    refine XS.iadd X2.here hx rfl (hb hby d3_12) rfl ?_
    refine XS.istoreN X2.here hx rfl (hb hby d3_13) rfl (l' := #[uR a1, uL q2, uS, uI 0]) rfl ?_
    refine XS.aloadN X2.here hx rfl (hb hby d3_14) rfl rfl ?_
    refine XS.dup X2.here hx rfl (hb hby d3_15) rfl rfl ?_
    refine st4 _ ?_
    refine XS.iloadN X4.here hx rfl (hb hby d3_19) rfl ?_
    refine XS.isub X4.here hx rfl (hb hby d3_20) rfl ?_
    refine st5 _ ?_
    show Steps p.tables e below (T5.setTop (mkF m 24 #[uR a1, uL q2, uS, uI 0] [])) _
    refine XS.aloadN X5.here hx rfl (hb hby d3_24) rfl rfl ?_
    refine XS.dup X5.here hx rfl (hb hby d3_25) rfl rfl ?_
    refine st21 _ ?_
    refine XS.iloadN X21.here hx rfl (hb hby d3_29) rfl ?_
    refine XS.i2l X21.here hx rfl (hb hby d3_30) rfl ?_
    refine XS.ladd X21.here hx rfl (hb hby d3_31) rfl ?_
    refine st22 _ ?_
    refine XS.aloadN X22.here hx rfl (hb hby d3_35) rfl rfl ?_
    refine st38 _ ?_
    refine XS.iloadN X38.here hx rfl (hb hby d3_39) rfl ?_
    refine XS.aloadN X38.here hx rfl (hb hby d3_40) rfl rfl ?_
    refine st39 _ ?_
    refine XS.iconst X39.here hx rfl (hb hby d3_44) ?_
    refine XS.aloadN X39.here hx rfl (hb hby d3_45) rfl rfl ?_
    refine st40 _ ?_
    refine st41 _ ?_
    show Steps p.tables e below (T41.setTop (mkF m 52 #[uR a1, uL q2, uS, uI 0] [])) _
    refine XS.aloadN X41.here hx rfl (hb hby d3_52) rfl rfl ?_
    refine st55 _ ?_
    refine XS.iloadN X55.here hx rfl (hb hby d3_56) rfl ?_
    refine XS.aloadN X55.here hx rfl (hb hby d3_57) rfl rfl ?_
    refine st56 _ ?_
    refine XS.iconst X56.here hx rfl (hb hby d3_61) ?_
    refine XS.aloadN X56.here hx rfl (hb hby d3_62) rfl rfl ?_
    refine st57 _ ?_
    refine st58 _ ?_
    refine XS.aloadN X58.here hx rfl (hb hby d3_69) rfl rfl ?_
    refine st72 _ ?_
    refine XS.iloadN X72.here hx rfl (hb hby d3_73) rfl ?_
    refine XS.aloadN X72.here hx rfl (hb hby d3_74) rfl rfl ?_
    refine st73 _ ?_
    refine XS.iconst X73.here hx rfl (hb hby d3_78) ?_
    refine XS.aloadN X73.here hx rfl (hb hby d3_79) rfl rfl ?_
    show Steps p.tables e below (T73.setTop (mkF m 80 #[uR a1, uL q2, uS, uI 0] [(.ref a1), (.int 0), (.ref aM), (.int 0), (.ref aM)])) _
    refine st74 _ ?_
    refine st75 _ ?_
    refine XS.aloadN X75.here hx rfl (hb hby d3_86) rfl rfl ?_
    refine XS.aloadN X75.here hx rfl (hb hby d3_87) rfl rfl ?_
    refine st89 _ ?_
    refine XS.iconst X89.here hx rfl (hb hby d3_91) ?_
    refine XS.imul X89.here hx rfl (hb hby d3_92) rfl ?_
    refine XS.bipush X89.here hx rfl (hb hby d3_93) ?_
    refine st90 _ ?_
    refine st92.trans ?_
    exact X92.returnOut hx Bd.returns (hb hby d3_101) hr
  · show Qdr30 Z a1 q2 aB aP aM kB kP kM b0 b1 b2 b3 b4 b5 b6 b7 x0 x1 x2 x3 x4 x5 x6 x7 h0 n0 _ T92.heap _
    exact ⟨n1_92, kn1_92, n2_92, kn2_92, n3_92, kn3_92, rfl, N93, K119, gq92_0, gq92_1, gq92_2, sz_n1_92, sz_n2_92, sz_n3_92, nq92_1_0, nq92_2_0, nq92_2_1, o92_0, o92_4, o92_5, o92_3, o92_10⟩
theorem ef_dr31 (m : MethodId) (x0 : Addr) (x1 : Int64) : entryFrame m #[(.ref x0), (.long x1)] 4 = mkF m 0 #[.val (.ref x0), .val (.long x1), .second, .unset] [] := by first | (simp [entryFrame, mkF, argsToLocals, Value.category]; done) | rfl
abbrev R_dr31 : Room := { frames := 3, cells := 3, slots := 24, locals := 56 }
def Qdr31 (Z : State) (a1 : Addr) (q2 : Int64) (aB : Addr) (aP : Addr) (aM : Addr) (kB : ClassId) (kP : ClassId) (kM : ClassId) (b0 : Int64) (b1 : Int64) (b2 : Int64) (b3 : Int64) (b4 : Int64) (b5 : Int64) (b6 : Int64) (b7 : Int64) (x0 : Int64) (x1 : Int64) (x2 : Int64) (x3 : Int64) (x4 : Int64) (x5 : Int64) (x6 : Int64) (x7 : Int64) (h0 : Heap) (n0 : Nat) (v : Option Value) (h : Heap) (L : List Loc) : Prop := ∃ (n1 : Addr) (kn1 : ClassId) (n2 : Addr) (kn2 : ClassId) (n3 : Addr) (kn3 : ClassId), v = none ∧ Fr n0 L ∧ Keep h0 h [a1, aB, aP, aM] ∧ n0 ≤ n1 ∧ n0 ≤ n2 ∧ n0 ≤ n3 ∧ h0.size ≤ n1 ∧ h0.size ≤ n2 ∧ h0.size ≤ n3 ∧ n2 ≠ n1 ∧ n3 ≠ n1 ∧ n3 ≠ n2 ∧ Exa Z h a1 KC ∧ Fld Z h a1 KC "count" "I" (.int 2) ∧ Fld Z h a1 KC "first" "J" (.long 1) ∧ Fld Z h a1 KC KM "[J" (.ref n3) ∧ Arv Z h n3 kn3 .long (8 : Int32) [(.long x1), (.long x2), (.long x2), (.long x3), (.long x4), (.long x5), (.long x6), (.long x7)] (.long 0)
set_option maxRecDepth 65536 in
set_option maxHeartbeats 40000000 in
theorem rmdr31 (l : Launch) (Z : State) (a0 : Array Value) (hw : ∀ d ∈ tables_1, d.before a0 Z = true) (ws : List Jvm.Cond) (a1 : Addr) (q2 : Int64) (aB : Addr) (aP : Addr) (aM : Addr) (kB : ClassId) (kP : ClassId) (kM : ClassId) (b0 : Int64) (b1 : Int64) (b2 : Int64) (b3 : Int64) (b4 : Int64) (b5 : Int64) (b6 : Int64) (b7 : Int64) (x0 : Int64) (x1 : Int64) (x2 : Int64) (x3 : Int64) (x4 : Int64) (x5 : Int64) (x6 : Int64) (x7 : Int64) (h0 : Heap) (n0 : Nat) (Z0 : n0 ≤ h0.size) (E_a1 : Exa Z h0 a1 KC) (F_baseOffsets_a1 : Fld Z h0 a1 KC KB "[J" (.ref aB)) (F_positions_a1 : Fld Z h0 a1 KC KP "[J" (.ref aP)) (F_maxTimestampsSoFar_a1 : Fld Z h0 a1 KC KM "[J" (.ref aM)) (F_count_a1 : Fld Z h0 a1 KC "count" "I" (.int 3)) (F_first_a1 : Fld Z h0 a1 KC "first" "J" (.long 0)) (V_aB : Arv Z h0 aB kB .long (8 : Int32) [(.long b0), (.long b1), (.long b2), (.long b3), (.long b4), (.long b5), (.long b6), (.long b7)] (.long 0)) (V_aP : Arv Z h0 aP kP .long (8 : Int32) [(.long 10), (.long 20), (.long 30), (.long 0), (.long 0), (.long 0), (.long 0), (.long 0)] (.long 0)) (V_aM : Arv Z h0 aM kM .long (8 : Int32) [(.long x0), (.long x1), (.long x2), (.long x3), (.long x4), (.long x5), (.long x6), (.long x7)] (.long 0)) (E_aB : Exa Z h0 aB "[J") (E_aP : Exa Z h0 aP "[J") (E_aM : Exa Z h0 aM "[J") (g_a1 : n0 ≤ a1) (g_aB : n0 ≤ aB) (g_aP : n0 ≤ aP) (g_aM : n0 ≤ aM) (ne_a1_aB : a1 ≠ aB) (ne_a1_aP : a1 ≠ aP) (ne_a1_aM : a1 ≠ aM) (ne_aB_aP : aB ≠ aP) (ne_aB_aM : aB ≠ aM) (ne_aP_aM : aP ≠ aM) (hk : (fla_3 (q2 - (1 : Int64))) = (0 : Int32)) :
    MetFree l (⟨KC, "dropBefore", "(J)V"⟩ : MethodName) (head1 (Jvm.Cond.code (⟨KC, "dropBefore", "(J)V"⟩ : MethodName) prog_126_method_11_code 4 none :: ws) R_dr31) (fun a U => a = #[(.ref a1), (.long q2)] ∧ Z.Warmed39 U.vm ∧ U.heap = h0) (fun _ _ _ _ _ => True) (fun _ U o U' => ∃ v L, o = .returned v ∧ Qdr31 Z a1 q2 aB aP aM kB kP kM b0 b1 b2 b3 b4 b5 b6 b7 x0 x1 x2 x3 x4 x5 x6 x7 h0 n0 v U'.heap L ∧ FrameEnd U o U' L R_dr31.cells R_dr31.slots) := by
  refine MetFree.of_bodySF (plainFor_of_name pn_55) hisR ?_
  intro p e s m args below meth c s₁ Bd hml0 hP hK
  obtain ⟨rfl, hZ, hh⟩ := hP
  have hx := Bd.exec
  have hby := Bd.bytes
  have hml : c.maxLocals = 4 := hml0
  have hown : s.vm.findClass KC = some m.cls := findClass_of_methodNamed Bd.named
  have hnm := (name_of_methodNamed Bd.named Bd.method).1
  have X0 : Stand p l e R_dr31 s m #[(.ref a1), (.long q2)] below meth c s₁ [] 0 0 := Stand.of_body Bd
  have e0 : s₁.heap = h0 := by rw [← hh, Bd.state]; rfl
  have N0 := Fr.nil n0
  have pre0 : ∀ t, Steps p.tables e below (s₁.setTop (mkF m 0 #[uR a1, uL q2, uS, uU] [])) t → Steps p.tables e below (s₁.setTop (entryFrame m #[(.ref a1), (.long q2)] 4)) t := fun t k => castTop (ef_dr31 m a1 q2) k
  obtain ⟨T1, X1, e1, st1⟩ := getF X0 hx hZ hown (host := "") (Or.inl (own_w hw (i := 13) rfl)) Via.refl e0 F_positions_a1 (g := (mkF m 2 #[uR a1, uL q2, uS, uU] [(.ref a1), (.ref a1)])) rfl rfl (hb hby d3_2)
  -- pc 8: BatchIndex.lastAtOrBefore by rmla_3
  obtain ⟨cq2, qc2, qc2'⟩ := E_a1.cell
  obtain ⟨_, _, ⟨T2, L2, ck2, cn2⟩, -, X2, ⟨Lc2, hQ2, l2, y2, z2⟩, st2⟩ := X1.privateBack hx (y := (⟨KC, "lastAtOrBefore", "([JJ)I"⟩ : MethodName)) hown (mvT hZ (own_w hw (i := 23) rfl)) (mvT hZ (own_w hw (i := 24) rfl)) (own_sel (y := (⟨KC, "lastAtOrBefore", "([JJ)I"⟩ : MethodName)) (mvT hZ (own_w hw (i := 1) rfl)) (Cond.privateMethod_at (mvP hZ (own_w hw (i := 25) rfl) (args := #[]))) (mvT hZ (own_w hw (i := 24) rfl)) (by decide)) (Cond.privateMethod_at (mvP hZ (own_w hw (i := 25) rfl) (args := #[]))) (mvT hZ (own_w hw (i := 26) rfl)) (by decide) (backOf (W := 0) (rmla_3 l Z a0 hw [] a1 aP (q2 - (1 : Int64)) kP (0 : Int32) h0 n0 Z0 F_count_a1 V_aP hk) hZ (own_w hw (i := 26) rfl) (own_w hw (i := 2) rfl) (by decide) (by decide)) (g := (mkF m 8 #[uR a1, uL q2, uS, uU] [(.long (q2 - (1 : Int64))), (.ref aP), (.ref a1)])) rfl (by rw [hml]; rfl) (Steps.refl _) (a := a1) (by rw [e1]; exact qc2) qc2' (argsL := [(.ref aP), (.long (q2 - (1 : Int64)))]) (rest := []) (lenOf pd_239 rfl) rfl (by show 2 * 0 + _ ≤ _; exact Nat.le_of_eq rfl) (hb hby d3_8) (fun _ _ => ⟨rfl, e1, (by decide : 0 + 0 ≤ _), (by decide : 0 + 0 ≤ _)⟩)
  dsimp only [Pt.U, Pt.locs, Pt.cells, Pt.slots] at X2 l2 y2 z2 st2 hQ2
  subst y2 z2
  obtain ⟨rfl, N2q, e2⟩ := hQ2
  have N3 : Fr n0 L2 := by rw [l2]; exact Fr.app N0 N2q
  obtain ⟨T4, X4, e4, st4⟩ := getF X2 hx hZ hown (host := "") (Or.inl (own_w hw (i := 27) rfl)) Via.refl e2 F_count_a1 (g := (mkF m 16 #[uR a1, uL q2, uS, uI 1] [(.ref a1), (.ref a1)])) rfl rfl (hb hby d3_16)
  obtain ⟨T5, h5, X5, e5, W5, st5⟩ := putF X4 hx hZ hown (host := "") (Or.inl (own_w hw (i := 27) rfl)) Via.refl e4 F_count_a1 E_a1 (Or.inl (own_w hw (i := 28) rfl)) (own_w hw (i := 1) rfl) (ty := .int) (by decide) rfl rfl (g := (mkF m 21 #[uR a1, uL q2, uS, uI 1] [(.int 2), (.ref a1)])) rfl rfl (hb hby d3_21)
  have f6 := E_a1.wr W5
  have f7 := F_baseOffsets_a1.other W5 (Or.inr (sn_143 hw))
  have f8 := F_positions_a1.other W5 (Or.inr (sn_144 hw))
  have f9 := F_maxTimestampsSoFar_a1.other W5 (Or.inr (sn_145 hw))
  have f10 := F_count_a1.same W5
  have f11 := F_first_a1.other W5 (Or.inr (sn_146 hw))
  have f12 := V_aB.other W5 (Ne.symm ne_a1_aB)
  have f13 := V_aP.other W5 (Ne.symm ne_a1_aP)
  have f14 := V_aM.other W5 (Ne.symm ne_a1_aM)
  have f15 := E_aB.wr W5
  have f16 := E_aP.wr W5
  have f17 := E_aM.wr W5
  have K18 := (Keep.refl h0 [a1, aB, aP, aM]).wr W5 (Or.inl (List.mem_of_getElem? (i := 0) rfl))
  have zs19 : n0 ≤ h5.size := Nat.le_trans Z0 (Keep.of_wr W5).1
  have N20 := Fr.snoc X5 N3 g_a1
  obtain ⟨T21, X21, e21, st21⟩ := getF X5 hx hZ hown (host := "") (Or.inl (own_w hw (i := 39) rfl)) Via.refl e5 f11 (g := (mkF m 26 #[uR a1, uL q2, uS, uI 1] [(.ref a1), (.ref a1)])) rfl rfl (hb hby d3_26)
  obtain ⟨T22, h22, X22, e22, W22, st22⟩ := putF X21 hx hZ hown (host := "") (Or.inl (own_w hw (i := 39) rfl)) Via.refl e21 f11 f6 (Or.inl (own_w hw (i := 40) rfl)) (own_w hw (i := 1) rfl) (ty := .long) (by decide) rfl rfl (g := (mkF m 32 #[uR a1, uL q2, uS, uI 1] [(.long 1), (.ref a1)])) rfl rfl (hb hby d3_32)
  have f23 := f6.wr W22
  have f24 := f7.other W22 (Or.inr (sn_256 hw))
  have f25 := f8.other W22 (Or.inr (sn_257 hw))
  have f26 := f9.other W22 (Or.inr (sn_258 hw))
  have f27 := f10.other W22 (Or.inr (sn_259 hw))
  have f28 := f11.same W22
  have f29 := f12.other W22 (Ne.symm ne_a1_aB)
  have f30 := f13.other W22 (Ne.symm ne_a1_aP)
  have f31 := f14.other W22 (Ne.symm ne_a1_aM)
  have f32 := f15.wr W22
  have f33 := f16.wr W22
  have f34 := f17.wr W22
  have K35 := K18.wr W22 (Or.inl (List.mem_of_getElem? (i := 0) rfl))
  have zs36 : n0 ≤ h22.size := Nat.le_trans zs19 (Keep.of_wr W22).1
  have N37 := Fr.snoc X22 N20 g_a1
  obtain ⟨T38, X38, e38, st38⟩ := getF X22 hx hZ hown (host := "") (Or.inl (own_w hw (i := 11) rfl)) Via.refl e22 f24 (g := (mkF m 36 #[uR a1, uL q2, uS, uI 1] [(.ref a1)])) rfl rfl (hb hby d3_36)
  obtain ⟨T39, X39, e39, st39⟩ := getF X38 hx hZ hown (host := "") (Or.inl (own_w hw (i := 11) rfl)) Via.refl e38 f24 (g := (mkF m 41 #[uR a1, uL q2, uS, uI 1] [(.ref a1), (.int 1), (.ref aB)])) rfl rfl (hb hby d3_41)
  obtain ⟨T40, X40, e40, st40⟩ := getF X39 hx hZ hown (host := "") (Or.inl (own_w hw (i := 27) rfl)) Via.refl e39 f27 (g := (mkF m 46 #[uR a1, uL q2, uS, uI 1] [(.ref a1), (.int 0), (.ref aB), (.int 1), (.ref aB)])) rfl rfl (hb hby d3_46)
  obtain ⟨T41, h41, L41, X41, e41, N41, Kc41, V41, st41⟩ := cpA X40 hx hZ hown (own_w hw (i := 41) rfl) (own_w hw (i := 44) rfl) (own_w hw (i := 42) rfl) (own_w hw (i := 43) rfl) e40 f29 f29 (sp := (1 : Int32)) (dp := (0 : Int32)) (nn := (2 : Int32)) (us := [(.long b1), (.long b2)]) (Or.inl ⟨rfl, rfl⟩) (by decide) (by decide) (by decide) (by decide) (by decide) rfl (Nat.le_of_ble_eq_true rfl) N37 g_aB (g := (mkF m 49 #[uR a1, uL q2, uS, uI 1] [(.int 2), (.int 0), (.ref aB), (.int 1), (.ref aB)])) rfl (by rw [hml]; rfl) rfl (hb hby d3_49) (by decide) (W := 0) (by show 2 * 0 + _ ≤ _; exact Nat.le_of_eq rfl) (by decide)
  have Kd41 : Keep h22 h41 [aB] := Kc41
  have f42 := f23.keep Kd41
  have f43 := f24.keep Kd41 (ninS ne_a1_aB nin0)
  have f44 := f25.keep Kd41 (ninS ne_a1_aB nin0)
  have f45 := f26.keep Kd41 (ninS ne_a1_aB nin0)
  have f46 := f27.keep Kd41 (ninS ne_a1_aB nin0)
  have f47 := f28.keep Kd41 (ninS ne_a1_aB nin0)
  have f48 := f30.keep Kd41 (ninS (Ne.symm ne_aB_aP) nin0)
  have f49 := f31.keep Kd41 (ninS (Ne.symm ne_aB_aM) nin0)
  have f50 := f32.keep Kd41
  have f51 := f33.keep Kd41
  have f52 := f34.keep Kd41
  have zs53 : n0 ≤ h41.size := Nat.le_trans zs36 Kd41.1
  have K54 := K35.trans Kd41 (allS (Or.inl (List.mem_of_getElem? (i := 1) rfl)) all0)
  have Vx41 : Arv Z h41 aB kB .long (8 : Int32) [(.long b1), (.long b2), (.long b2), (.long b3), (.long b4), (.long b5), (.long b6), (.long b7)] (.long 0) := V41
  obtain ⟨T55, X55, e55, st55⟩ := getF X41 hx hZ hown (host := "") (Or.inl (own_w hw (i := 13) rfl)) Via.refl e41 f44 (g := (mkF m 53 #[uR a1, uL q2, uS, uI 1] [(.ref a1)])) rfl rfl (hb hby d3_53)
  obtain ⟨T56, X56, e56, st56⟩ := getF X55 hx hZ hown (host := "") (Or.inl (own_w hw (i := 13) rfl)) Via.refl e55 f44 (g := (mkF m 58 #[uR a1, uL q2, uS, uI 1] [(.ref a1), (.int 1), (.ref aP)])) rfl rfl (hb hby d3_58)
  obtain ⟨T57, X57, e57, st57⟩ := getF X56 hx hZ hown (host := "") (Or.inl (own_w hw (i := 27) rfl)) Via.refl e56 f46 (g := (mkF m 63 #[uR a1, uL q2, uS, uI 1] [(.ref a1), (.int 0), (.ref aP), (.int 1), (.ref aP)])) rfl rfl (hb hby d3_63)
  obtain ⟨T58, h58, L58, X58, e58, N58, Kc58, V58, st58⟩ := cpA X57 hx hZ hown (own_w hw (i := 41) rfl) (own_w hw (i := 44) rfl) (own_w hw (i := 42) rfl) (own_w hw (i := 43) rfl) e57 f48 f48 (sp := (1 : Int32)) (dp := (0 : Int32)) (nn := (2 : Int32)) (us := [(.long 20), (.long 30)]) (Or.inl ⟨rfl, rfl⟩) (by decide) (by decide) (by decide) (by decide) (by decide) rfl (Nat.le_of_ble_eq_true rfl) N41 g_aP (g := (mkF m 66 #[uR a1, uL q2, uS, uI 1] [(.int 2), (.int 0), (.ref aP), (.int 1), (.ref aP)])) rfl (by rw [hml]; rfl) rfl (hb hby d3_66) (by decide) (W := 0) (by show 2 * 0 + _ ≤ _; exact Nat.le_of_eq rfl) (by decide)
  have Kd58 : Keep h41 h58 [aP] := Kc58
  have f59 := f42.keep Kd58
  have f60 := f43.keep Kd58 (ninS ne_a1_aP nin0)
  have f61 := f44.keep Kd58 (ninS ne_a1_aP nin0)
  have f62 := f45.keep Kd58 (ninS ne_a1_aP nin0)
  have f63 := f46.keep Kd58 (ninS ne_a1_aP nin0)
  have f64 := f47.keep Kd58 (ninS ne_a1_aP nin0)
  have f65 := f49.keep Kd58 (ninS (Ne.symm ne_aP_aM) nin0)
  have f66 := f50.keep Kd58
  have f67 := f51.keep Kd58
  have f68 := f52.keep Kd58
  have f69 := Vx41.keep Kd58 (ninS ne_aB_aP nin0)
  have zs70 : n0 ≤ h58.size := Nat.le_trans zs53 Kd58.1
  have K71 := K54.trans Kd58 (allS (Or.inl (List.mem_of_getElem? (i := 2) rfl)) all0)
  have Vx58 : Arv Z h58 aP kP .long (8 : Int32) [(.long 20), (.long 30), (.long 30), (.long 0), (.long 0), (.long 0), (.long 0), (.long 0)] (.long 0) := V58
  obtain ⟨T72, X72, e72, st72⟩ := getF X58 hx hZ hown (host := "") (Or.inl (own_w hw (i := 15) rfl)) Via.refl e58 f62 (g := (mkF m 70 #[uR a1, uL q2, uS, uI 1] [(.ref a1)])) rfl rfl (hb hby d3_70)
  obtain ⟨T73, X73, e73, st73⟩ := getF X72 hx hZ hown (host := "") (Or.inl (own_w hw (i := 15) rfl)) Via.refl e72 f62 (g := (mkF m 75 #[uR a1, uL q2, uS, uI 1] [(.ref a1), (.int 1), (.ref aM)])) rfl rfl (hb hby d3_75)
  obtain ⟨T74, X74, e74, st74⟩ := getF X73 hx hZ hown (host := "") (Or.inl (own_w hw (i := 27) rfl)) Via.refl e73 f63 (g := (mkF m 80 #[uR a1, uL q2, uS, uI 1] [(.ref a1), (.int 0), (.ref aM), (.int 1), (.ref aM)])) rfl rfl (hb hby d3_80)
  obtain ⟨T75, h75, L75, X75, e75, N75, Kc75, V75, st75⟩ := cpA X74 hx hZ hown (own_w hw (i := 41) rfl) (own_w hw (i := 44) rfl) (own_w hw (i := 42) rfl) (own_w hw (i := 43) rfl) e74 f65 f65 (sp := (1 : Int32)) (dp := (0 : Int32)) (nn := (2 : Int32)) (us := [(.long x1), (.long x2)]) (Or.inl ⟨rfl, rfl⟩) (by decide) (by decide) (by decide) (by decide) (by decide) rfl (Nat.le_of_ble_eq_true rfl) N58 g_aM (g := (mkF m 83 #[uR a1, uL q2, uS, uI 1] [(.int 2), (.int 0), (.ref aM), (.int 1), (.ref aM)])) rfl (by rw [hml]; rfl) rfl (hb hby d3_83) (by decide) (W := 0) (by show 2 * 0 + _ ≤ _; exact Nat.le_of_eq rfl) (by decide)
  have Kd75 : Keep h58 h75 [aM] := Kc75
  have f76 := f59.keep Kd75
  have f77 := f60.keep Kd75 (ninS ne_a1_aM nin0)
  have f78 := f61.keep Kd75 (ninS ne_a1_aM nin0)
  have f79 := f62.keep Kd75 (ninS ne_a1_aM nin0)
  have f80 := f63.keep Kd75 (ninS ne_a1_aM nin0)
  have f81 := f64.keep Kd75 (ninS ne_a1_aM nin0)
  have f82 := f66.keep Kd75
  have f83 := f67.keep Kd75
  have f84 := f68.keep Kd75
  have f85 := f69.keep Kd75 (ninS ne_aB_aM nin0)
  have f86 := Vx58.keep Kd75 (ninS ne_aP_aM nin0)
  have zs87 : n0 ≤ h75.size := Nat.le_trans zs70 Kd75.1
  have K88 := K71.trans Kd75 (allS (Or.inl (List.mem_of_getElem? (i := 3) rfl)) all0)
  have Vx75 : Arv Z h75 aM kM .long (8 : Int32) [(.long x1), (.long x2), (.long x2), (.long x3), (.long x4), (.long x5), (.long x6), (.long x7)] (.long 0) := V75
  obtain ⟨T89, X89, e89, st89⟩ := getF X75 hx hZ hown (host := "") (Or.inl (own_w hw (i := 27) rfl)) Via.refl e75 f80 (g := (mkF m 88 #[uR a1, uL q2, uS, uI 1] [(.ref a1), (.ref a1)])) rfl rfl (hb hby d3_88)
  -- pc 95: Math.max by rmmx2
  obtain ⟨_, _, ⟨T90, L90, ck90, cn90⟩, -, X90, ⟨Lc90, hQ90, l90, y90, z90⟩, st90⟩ := Jvm.LawKit.callS X89 hx (y := (⟨"java/lang/Math", "max", "(II)I"⟩ : MethodName)) hown (mvT hZ (own_w hw (i := 45) rfl)) (mvT hZ (own_w hw (i := 46) rfl)) (mvT hZ (own_w hw (i := 47) rfl)) (mvT hZ (own_w hw (i := 48) rfl)) (by decide) (backOf (W := 1) (rmmx2 l Z a0 hw [] (4 : Int32) (8 : Int32) h75 n0 zs87 (by decide)) hZ (own_w hw (i := 48) rfl) (own_w hw (i := 47) rfl) (by decide) (by decide)) (g := (mkF m 95 #[uR a1, uL q2, uS, uI 1] [(.int 8), (.int 4), (.ref a1)])) rfl (by rw [hml]; rfl) (argsL := [(.int 4), (.int 8)]) (rest := [(.ref a1)]) (lenOf pd_47 rfl) rfl (by show 2 * 0 + _ ≤ _; exact Nat.le_of_eq rfl) (hb hby d3_95) (fun _ _ => ⟨rfl, e89, (by decide : 0 + 0 ≤ _), (by decide : 0 + 0 ≤ _)⟩)
  dsimp only [Pt.U, Pt.locs, Pt.cells, Pt.slots] at X90 l90 y90 z90 st90 hQ90
  subst y90 z90
  obtain ⟨rfl, N90q, e90⟩ := hQ90
  have N91 : Fr n0 L90 := by rw [l90]; exact Fr.app N75 N90q
  -- pc 98: BatchIndex.resize by rmrz8
  obtain ⟨cq92, qc92, qc92'⟩ := f76.cell
  obtain ⟨_, _, ⟨T92, L92, ck92, cn92⟩, -, X92, ⟨Lc92, hQ92, l92, y92, z92⟩, st92⟩ := X90.privateBack hx (y := (⟨KC, "resize", "(I)V"⟩ : MethodName)) hown (mvT hZ (own_w hw (i := 49) rfl)) (mvT hZ (own_w hw (i := 50) rfl)) (own_sel (y := (⟨KC, "resize", "(I)V"⟩ : MethodName)) (mvT hZ (own_w hw (i := 1) rfl)) (Cond.privateMethod_at (mvP hZ (own_w hw (i := 51) rfl) (args := #[]))) (mvT hZ (own_w hw (i := 50) rfl)) (by decide)) (Cond.privateMethod_at (mvP hZ (own_w hw (i := 51) rfl) (args := #[]))) (mvT hZ (own_w hw (i := 52) rfl)) (by decide) (backOf (W := 0) (rmrz8 l Z a0 hw [] a1 aB aP aM kB kP kM (2 : Int32) (1 : Int64) b1 b2 b2 b3 b4 b5 b6 b7 (20 : Int64) (30 : Int64) (30 : Int64) (0 : Int64) (0 : Int64) (0 : Int64) (0 : Int64) (0 : Int64) x1 x2 x2 x3 x4 x5 x6 x7 h75 n0 zs87 f76 f80 f81 f77 f78 f79 f85 f86 Vx75 f82 f83 f84 g_a1 ne_a1_aB ne_a1_aP ne_a1_aM ne_aB_aP ne_aB_aM ne_aP_aM) hZ (own_w hw (i := 52) rfl) (own_w hw (i := 2) rfl) (by decide) (by decide)) (g := (mkF m 98 #[uR a1, uL q2, uS, uI 1] [(.int 8), (.ref a1)])) rfl (by rw [hml]; rfl) (Steps.refl _) (a := a1) (by rw [e90]; exact qc92) qc92' (argsL := [(.int 8)]) (rest := []) (lenOf pd_114 rfl) rfl (by show 2 * 0 + _ ≤ _; exact Nat.le_of_eq rfl) (hb hby d3_98) (fun _ _ => ⟨rfl, e90, (by decide : 0 + 3 ≤ _), (by decide : 0 + 24 ≤ _)⟩)
  dsimp only [Pt.U, Pt.locs, Pt.cells, Pt.slots] at X92 l92 y92 z92 st92 hQ92
  subst y92 z92
  obtain ⟨n1_92, kn1_92, n2_92, kn2_92, n3_92, kn3_92, rfl, N92q, K92q, gq92_0, gq92_1, gq92_2, sq92_0, sq92_1, sq92_2, nq92_1_0, nq92_2_0, nq92_2_1, o92_0, o92_1, o92_2, o92_3, o92_4, o92_5, o92_6, o92_7, o92_8, o92_9, o92_10, o92_11⟩ := hQ92
  have N93 : Fr n0 L92 := by rw [l92]; exact Fr.app N91 N92q
  have sz_n1_92 : h0.size ≤ n1_92 := Nat.le_trans K88.1 sq92_0
  have sz_n2_92 : h0.size ≤ n2_92 := Nat.le_trans K88.1 sq92_1
  have sz_n3_92 : h0.size ≤ n3_92 := Nat.le_trans K88.1 sq92_2
  have K119 := K88.trans K92q (allS (Or.inl (List.mem_of_getElem? (i := 0) rfl)) all0)
  obtain ⟨fs, hr, hrun, hended, hW, hsame⟩ := X92.leave (v := none) (fun _ => rfl) Bd.notSynchronized
  refine ⟨_, _, pre0 _ ?_, hrun, hended, _, _, rfl, ?_, ⟨_, rfl⟩, hW, hsame.mono (by decide) (by decide)⟩
  · show Steps p.tables e below (s₁.setTop (mkF m 0 #[uR a1, uL q2, uS, uU] [])) _
    refine XS.aloadN X0.here hx rfl (hb hby d3_0) rfl rfl ?_
    refine XS.aloadN X0.here hx rfl (hb hby d3_1) rfl rfl ?_
    refine st1 _ ?_
    refine XS.lloadN X1.here hx rfl (hb hby d3_5) rfl ?_
    refine XS.lconst X1.here hx rfl (hb hby d3_6) ?_
    refine XS.lsub X1.here hx rfl (hb hby d3_7) rfl ?_
    refine st2.trans ?_
    refine XS.iconst X2.here hx rfl (hb hby d3_11) ?_
    refine XS.iadd X2.here hx rfl (hb hby d3_12) rfl ?_
    refine XS.istoreN X2.here hx rfl (hb hby d3_13) rfl (l' := #[uR a1, uL q2, uS, uI 1]) rfl ?_
    refine XS.aloadN X2.here hx rfl (hb hby d3_14) rfl rfl ?_
    refine XS.dup X2.here hx rfl (hb hby d3_15) rfl rfl ?_
    refine st4 _ ?_
    refine XS.iloadN X4.here hx rfl (hb hby d3_19) rfl ?_
    refine XS.isub X4.here hx rfl (hb hby d3_20) rfl ?_
    refine st5 _ ?_
    show Steps p.tables e below (T5.setTop (mkF m 24 #[uR a1, uL q2, uS, uI 1] [])) _
    refine XS.aloadN X5.here hx rfl (hb hby d3_24) rfl rfl ?_
    refine XS.dup X5.here hx rfl (hb hby d3_25) rfl rfl ?_
    refine st21 _ ?_
    refine XS.iloadN X21.here hx rfl (hb hby d3_29) rfl ?_
    refine XS.i2l X21.here hx rfl (hb hby d3_30) rfl ?_
    refine XS.ladd X21.here hx rfl (hb hby d3_31) rfl ?_
    refine st22 _ ?_
    refine XS.aloadN X22.here hx rfl (hb hby d3_35) rfl rfl ?_
    refine st38 _ ?_
    refine XS.iloadN X38.here hx rfl (hb hby d3_39) rfl ?_
    refine XS.aloadN X38.here hx rfl (hb hby d3_40) rfl rfl ?_
    refine st39 _ ?_
    refine XS.iconst X39.here hx rfl (hb hby d3_44) ?_
    refine XS.aloadN X39.here hx rfl (hb hby d3_45) rfl rfl ?_
    refine st40 _ ?_
    refine st41 _ ?_
    show Steps p.tables e below (T41.setTop (mkF m 52 #[uR a1, uL q2, uS, uI 1] [])) _
    refine XS.aloadN X41.here hx rfl (hb hby d3_52) rfl rfl ?_
    refine st55 _ ?_
    refine XS.iloadN X55.here hx rfl (hb hby d3_56) rfl ?_
    refine XS.aloadN X55.here hx rfl (hb hby d3_57) rfl rfl ?_
    refine st56 _ ?_
    refine XS.iconst X56.here hx rfl (hb hby d3_61) ?_
    refine XS.aloadN X56.here hx rfl (hb hby d3_62) rfl rfl ?_
    refine st57 _ ?_
    refine st58 _ ?_
    refine XS.aloadN X58.here hx rfl (hb hby d3_69) rfl rfl ?_
    refine st72 _ ?_
    refine XS.iloadN X72.here hx rfl (hb hby d3_73) rfl ?_
    refine XS.aloadN X72.here hx rfl (hb hby d3_74) rfl rfl ?_
    refine st73 _ ?_
    refine XS.iconst X73.here hx rfl (hb hby d3_78) ?_
    refine XS.aloadN X73.here hx rfl (hb hby d3_79) rfl rfl ?_
    show Steps p.tables e below (T73.setTop (mkF m 80 #[uR a1, uL q2, uS, uI 1] [(.ref a1), (.int 0), (.ref aM), (.int 1), (.ref aM)])) _
    refine st74 _ ?_
    refine st75 _ ?_
    refine XS.aloadN X75.here hx rfl (hb hby d3_86) rfl rfl ?_
    refine XS.aloadN X75.here hx rfl (hb hby d3_87) rfl rfl ?_
    refine st89 _ ?_
    refine XS.iconst X89.here hx rfl (hb hby d3_91) ?_
    refine XS.imul X89.here hx rfl (hb hby d3_92) rfl ?_
    refine XS.bipush X89.here hx rfl (hb hby d3_93) ?_
    refine st90 _ ?_
    refine st92.trans ?_
    exact X92.returnOut hx Bd.returns (hb hby d3_101) hr
  · show Qdr31 Z a1 q2 aB aP aM kB kP kM b0 b1 b2 b3 b4 b5 b6 b7 x0 x1 x2 x3 x4 x5 x6 x7 h0 n0 _ T92.heap _
    exact ⟨n1_92, kn1_92, n2_92, kn2_92, n3_92, kn3_92, rfl, N93, K119, gq92_0, gq92_1, gq92_2, sz_n1_92, sz_n2_92, sz_n3_92, nq92_1_0, nq92_2_0, nq92_2_1, o92_0, o92_4, o92_5, o92_3, o92_10⟩
theorem ef_dr32 (m : MethodId) (x0 : Addr) (x1 : Int64) : entryFrame m #[(.ref x0), (.long x1)] 4 = mkF m 0 #[.val (.ref x0), .val (.long x1), .second, .unset] [] := by first | (simp [entryFrame, mkF, argsToLocals, Value.category]; done) | rfl
abbrev R_dr32 : Room := { frames := 3, cells := 3, slots := 24, locals := 56 }
def Qdr32 (Z : State) (a1 : Addr) (q2 : Int64) (aB : Addr) (aP : Addr) (aM : Addr) (kB : ClassId) (kP : ClassId) (kM : ClassId) (b0 : Int64) (b1 : Int64) (b2 : Int64) (b3 : Int64) (b4 : Int64) (b5 : Int64) (b6 : Int64) (b7 : Int64) (x0 : Int64) (x1 : Int64) (x2 : Int64) (x3 : Int64) (x4 : Int64) (x5 : Int64) (x6 : Int64) (x7 : Int64) (h0 : Heap) (n0 : Nat) (v : Option Value) (h : Heap) (L : List Loc) : Prop := ∃ (n1 : Addr) (kn1 : ClassId) (n2 : Addr) (kn2 : ClassId) (n3 : Addr) (kn3 : ClassId), v = none ∧ Fr n0 L ∧ Keep h0 h [a1, aB, aP, aM] ∧ n0 ≤ n1 ∧ n0 ≤ n2 ∧ n0 ≤ n3 ∧ h0.size ≤ n1 ∧ h0.size ≤ n2 ∧ h0.size ≤ n3 ∧ n2 ≠ n1 ∧ n3 ≠ n1 ∧ n3 ≠ n2 ∧ Exa Z h a1 KC ∧ Fld Z h a1 KC "count" "I" (.int 1) ∧ Fld Z h a1 KC "first" "J" (.long 2) ∧ Fld Z h a1 KC KM "[J" (.ref n3) ∧ Arv Z h n3 kn3 .long (8 : Int32) [(.long x2), (.long x1), (.long x2), (.long x3), (.long x4), (.long x5), (.long x6), (.long x7)] (.long 0)
set_option maxRecDepth 65536 in
set_option maxHeartbeats 40000000 in
theorem rmdr32 (l : Launch) (Z : State) (a0 : Array Value) (hw : ∀ d ∈ tables_1, d.before a0 Z = true) (ws : List Jvm.Cond) (a1 : Addr) (q2 : Int64) (aB : Addr) (aP : Addr) (aM : Addr) (kB : ClassId) (kP : ClassId) (kM : ClassId) (b0 : Int64) (b1 : Int64) (b2 : Int64) (b3 : Int64) (b4 : Int64) (b5 : Int64) (b6 : Int64) (b7 : Int64) (x0 : Int64) (x1 : Int64) (x2 : Int64) (x3 : Int64) (x4 : Int64) (x5 : Int64) (x6 : Int64) (x7 : Int64) (h0 : Heap) (n0 : Nat) (Z0 : n0 ≤ h0.size) (E_a1 : Exa Z h0 a1 KC) (F_baseOffsets_a1 : Fld Z h0 a1 KC KB "[J" (.ref aB)) (F_positions_a1 : Fld Z h0 a1 KC KP "[J" (.ref aP)) (F_maxTimestampsSoFar_a1 : Fld Z h0 a1 KC KM "[J" (.ref aM)) (F_count_a1 : Fld Z h0 a1 KC "count" "I" (.int 3)) (F_first_a1 : Fld Z h0 a1 KC "first" "J" (.long 0)) (V_aB : Arv Z h0 aB kB .long (8 : Int32) [(.long b0), (.long b1), (.long b2), (.long b3), (.long b4), (.long b5), (.long b6), (.long b7)] (.long 0)) (V_aP : Arv Z h0 aP kP .long (8 : Int32) [(.long 10), (.long 20), (.long 30), (.long 0), (.long 0), (.long 0), (.long 0), (.long 0)] (.long 0)) (V_aM : Arv Z h0 aM kM .long (8 : Int32) [(.long x0), (.long x1), (.long x2), (.long x3), (.long x4), (.long x5), (.long x6), (.long x7)] (.long 0)) (E_aB : Exa Z h0 aB "[J") (E_aP : Exa Z h0 aP "[J") (E_aM : Exa Z h0 aM "[J") (g_a1 : n0 ≤ a1) (g_aB : n0 ≤ aB) (g_aP : n0 ≤ aP) (g_aM : n0 ≤ aM) (ne_a1_aB : a1 ≠ aB) (ne_a1_aP : a1 ≠ aP) (ne_a1_aM : a1 ≠ aM) (ne_aB_aP : aB ≠ aP) (ne_aB_aM : aB ≠ aM) (ne_aP_aM : aP ≠ aM) (hk : (fla_3 (q2 - (1 : Int64))) = (1 : Int32)) :
    MetFree l (⟨KC, "dropBefore", "(J)V"⟩ : MethodName) (head1 (Jvm.Cond.code (⟨KC, "dropBefore", "(J)V"⟩ : MethodName) prog_126_method_11_code 4 none :: ws) R_dr32) (fun a U => a = #[(.ref a1), (.long q2)] ∧ Z.Warmed39 U.vm ∧ U.heap = h0) (fun _ _ _ _ _ => True) (fun _ U o U' => ∃ v L, o = .returned v ∧ Qdr32 Z a1 q2 aB aP aM kB kP kM b0 b1 b2 b3 b4 b5 b6 b7 x0 x1 x2 x3 x4 x5 x6 x7 h0 n0 v U'.heap L ∧ FrameEnd U o U' L R_dr32.cells R_dr32.slots) := by
  refine MetFree.of_bodySF (plainFor_of_name pn_55) hisR ?_
  intro p e s m args below meth c s₁ Bd hml0 hP hK
  obtain ⟨rfl, hZ, hh⟩ := hP
  have hx := Bd.exec
  have hby := Bd.bytes
  have hml : c.maxLocals = 4 := hml0
  have hown : s.vm.findClass KC = some m.cls := findClass_of_methodNamed Bd.named
  have hnm := (name_of_methodNamed Bd.named Bd.method).1
  have X0 : Stand p l e R_dr32 s m #[(.ref a1), (.long q2)] below meth c s₁ [] 0 0 := Stand.of_body Bd
  have e0 : s₁.heap = h0 := by rw [← hh, Bd.state]; rfl
  have N0 := Fr.nil n0
  have pre0 : ∀ t, Steps p.tables e below (s₁.setTop (mkF m 0 #[uR a1, uL q2, uS, uU] [])) t → Steps p.tables e below (s₁.setTop (entryFrame m #[(.ref a1), (.long q2)] 4)) t := fun t k => castTop (ef_dr32 m a1 q2) k
  obtain ⟨T1, X1, e1, st1⟩ := getF X0 hx hZ hown (host := "") (Or.inl (own_w hw (i := 13) rfl)) Via.refl e0 F_positions_a1 (g := (mkF m 2 #[uR a1, uL q2, uS, uU] [(.ref a1), (.ref a1)])) rfl rfl (hb hby d3_2)
  -- pc 8: BatchIndex.lastAtOrBefore by rmla_3
  obtain ⟨cq2, qc2, qc2'⟩ := E_a1.cell
  obtain ⟨_, _, ⟨T2, L2, ck2, cn2⟩, -, X2, ⟨Lc2, hQ2, l2, y2, z2⟩, st2⟩ := X1.privateBack hx (y := (⟨KC, "lastAtOrBefore", "([JJ)I"⟩ : MethodName)) hown (mvT hZ (own_w hw (i := 23) rfl)) (mvT hZ (own_w hw (i := 24) rfl)) (own_sel (y := (⟨KC, "lastAtOrBefore", "([JJ)I"⟩ : MethodName)) (mvT hZ (own_w hw (i := 1) rfl)) (Cond.privateMethod_at (mvP hZ (own_w hw (i := 25) rfl) (args := #[]))) (mvT hZ (own_w hw (i := 24) rfl)) (by decide)) (Cond.privateMethod_at (mvP hZ (own_w hw (i := 25) rfl) (args := #[]))) (mvT hZ (own_w hw (i := 26) rfl)) (by decide) (backOf (W := 0) (rmla_3 l Z a0 hw [] a1 aP (q2 - (1 : Int64)) kP (1 : Int32) h0 n0 Z0 F_count_a1 V_aP hk) hZ (own_w hw (i := 26) rfl) (own_w hw (i := 2) rfl) (by decide) (by decide)) (g := (mkF m 8 #[uR a1, uL q2, uS, uU] [(.long (q2 - (1 : Int64))), (.ref aP), (.ref a1)])) rfl (by rw [hml]; rfl) (Steps.refl _) (a := a1) (by rw [e1]; exact qc2) qc2' (argsL := [(.ref aP), (.long (q2 - (1 : Int64)))]) (rest := []) (lenOf pd_239 rfl) rfl (by show 2 * 0 + _ ≤ _; exact Nat.le_of_eq rfl) (hb hby d3_8) (fun _ _ => ⟨rfl, e1, (by decide : 0 + 0 ≤ _), (by decide : 0 + 0 ≤ _)⟩)
  dsimp only [Pt.U, Pt.locs, Pt.cells, Pt.slots] at X2 l2 y2 z2 st2 hQ2
  subst y2 z2
  obtain ⟨rfl, N2q, e2⟩ := hQ2
  have N3 : Fr n0 L2 := by rw [l2]; exact Fr.app N0 N2q
  obtain ⟨T4, X4, e4, st4⟩ := getF X2 hx hZ hown (host := "") (Or.inl (own_w hw (i := 27) rfl)) Via.refl e2 F_count_a1 (g := (mkF m 16 #[uR a1, uL q2, uS, uI 2] [(.ref a1), (.ref a1)])) rfl rfl (hb hby d3_16)
  obtain ⟨T5, h5, X5, e5, W5, st5⟩ := putF X4 hx hZ hown (host := "") (Or.inl (own_w hw (i := 27) rfl)) Via.refl e4 F_count_a1 E_a1 (Or.inl (own_w hw (i := 28) rfl)) (own_w hw (i := 1) rfl) (ty := .int) (by decide) rfl rfl (g := (mkF m 21 #[uR a1, uL q2, uS, uI 2] [(.int 1), (.ref a1)])) rfl rfl (hb hby d3_21)
  have f6 := E_a1.wr W5
  have f7 := F_baseOffsets_a1.other W5 (Or.inr (sn_143 hw))
  have f8 := F_positions_a1.other W5 (Or.inr (sn_144 hw))
  have f9 := F_maxTimestampsSoFar_a1.other W5 (Or.inr (sn_145 hw))
  have f10 := F_count_a1.same W5
  have f11 := F_first_a1.other W5 (Or.inr (sn_146 hw))
  have f12 := V_aB.other W5 (Ne.symm ne_a1_aB)
  have f13 := V_aP.other W5 (Ne.symm ne_a1_aP)
  have f14 := V_aM.other W5 (Ne.symm ne_a1_aM)
  have f15 := E_aB.wr W5
  have f16 := E_aP.wr W5
  have f17 := E_aM.wr W5
  have K18 := (Keep.refl h0 [a1, aB, aP, aM]).wr W5 (Or.inl (List.mem_of_getElem? (i := 0) rfl))
  have zs19 : n0 ≤ h5.size := Nat.le_trans Z0 (Keep.of_wr W5).1
  have N20 := Fr.snoc X5 N3 g_a1
  obtain ⟨T21, X21, e21, st21⟩ := getF X5 hx hZ hown (host := "") (Or.inl (own_w hw (i := 39) rfl)) Via.refl e5 f11 (g := (mkF m 26 #[uR a1, uL q2, uS, uI 2] [(.ref a1), (.ref a1)])) rfl rfl (hb hby d3_26)
  obtain ⟨T22, h22, X22, e22, W22, st22⟩ := putF X21 hx hZ hown (host := "") (Or.inl (own_w hw (i := 39) rfl)) Via.refl e21 f11 f6 (Or.inl (own_w hw (i := 40) rfl)) (own_w hw (i := 1) rfl) (ty := .long) (by decide) rfl rfl (g := (mkF m 32 #[uR a1, uL q2, uS, uI 2] [(.long 2), (.ref a1)])) rfl rfl (hb hby d3_32)
  have f23 := f6.wr W22
  have f24 := f7.other W22 (Or.inr (sn_256 hw))
  have f25 := f8.other W22 (Or.inr (sn_257 hw))
  have f26 := f9.other W22 (Or.inr (sn_258 hw))
  have f27 := f10.other W22 (Or.inr (sn_259 hw))
  have f28 := f11.same W22
  have f29 := f12.other W22 (Ne.symm ne_a1_aB)
  have f30 := f13.other W22 (Ne.symm ne_a1_aP)
  have f31 := f14.other W22 (Ne.symm ne_a1_aM)
  have f32 := f15.wr W22
  have f33 := f16.wr W22
  have f34 := f17.wr W22
  have K35 := K18.wr W22 (Or.inl (List.mem_of_getElem? (i := 0) rfl))
  have zs36 : n0 ≤ h22.size := Nat.le_trans zs19 (Keep.of_wr W22).1
  have N37 := Fr.snoc X22 N20 g_a1
  obtain ⟨T38, X38, e38, st38⟩ := getF X22 hx hZ hown (host := "") (Or.inl (own_w hw (i := 11) rfl)) Via.refl e22 f24 (g := (mkF m 36 #[uR a1, uL q2, uS, uI 2] [(.ref a1)])) rfl rfl (hb hby d3_36)
  obtain ⟨T39, X39, e39, st39⟩ := getF X38 hx hZ hown (host := "") (Or.inl (own_w hw (i := 11) rfl)) Via.refl e38 f24 (g := (mkF m 41 #[uR a1, uL q2, uS, uI 2] [(.ref a1), (.int 2), (.ref aB)])) rfl rfl (hb hby d3_41)
  obtain ⟨T40, X40, e40, st40⟩ := getF X39 hx hZ hown (host := "") (Or.inl (own_w hw (i := 27) rfl)) Via.refl e39 f27 (g := (mkF m 46 #[uR a1, uL q2, uS, uI 2] [(.ref a1), (.int 0), (.ref aB), (.int 2), (.ref aB)])) rfl rfl (hb hby d3_46)
  obtain ⟨T41, h41, L41, X41, e41, N41, Kc41, V41, st41⟩ := cpA X40 hx hZ hown (own_w hw (i := 41) rfl) (own_w hw (i := 44) rfl) (own_w hw (i := 42) rfl) (own_w hw (i := 43) rfl) e40 f29 f29 (sp := (2 : Int32)) (dp := (0 : Int32)) (nn := (1 : Int32)) (us := [(.long b2)]) (Or.inl ⟨rfl, rfl⟩) (by decide) (by decide) (by decide) (by decide) (by decide) rfl (Nat.le_of_ble_eq_true rfl) N37 g_aB (g := (mkF m 49 #[uR a1, uL q2, uS, uI 2] [(.int 1), (.int 0), (.ref aB), (.int 2), (.ref aB)])) rfl (by rw [hml]; rfl) rfl (hb hby d3_49) (by decide) (W := 0) (by show 2 * 0 + _ ≤ _; exact Nat.le_of_eq rfl) (by decide)
  have Kd41 : Keep h22 h41 [aB] := Kc41
  have f42 := f23.keep Kd41
  have f43 := f24.keep Kd41 (ninS ne_a1_aB nin0)
  have f44 := f25.keep Kd41 (ninS ne_a1_aB nin0)
  have f45 := f26.keep Kd41 (ninS ne_a1_aB nin0)
  have f46 := f27.keep Kd41 (ninS ne_a1_aB nin0)
  have f47 := f28.keep Kd41 (ninS ne_a1_aB nin0)
  have f48 := f30.keep Kd41 (ninS (Ne.symm ne_aB_aP) nin0)
  have f49 := f31.keep Kd41 (ninS (Ne.symm ne_aB_aM) nin0)
  have f50 := f32.keep Kd41
  have f51 := f33.keep Kd41
  have f52 := f34.keep Kd41
  have zs53 : n0 ≤ h41.size := Nat.le_trans zs36 Kd41.1
  have K54 := K35.trans Kd41 (allS (Or.inl (List.mem_of_getElem? (i := 1) rfl)) all0)
  have Vx41 : Arv Z h41 aB kB .long (8 : Int32) [(.long b2), (.long b1), (.long b2), (.long b3), (.long b4), (.long b5), (.long b6), (.long b7)] (.long 0) := V41
  obtain ⟨T55, X55, e55, st55⟩ := getF X41 hx hZ hown (host := "") (Or.inl (own_w hw (i := 13) rfl)) Via.refl e41 f44 (g := (mkF m 53 #[uR a1, uL q2, uS, uI 2] [(.ref a1)])) rfl rfl (hb hby d3_53)
  obtain ⟨T56, X56, e56, st56⟩ := getF X55 hx hZ hown (host := "") (Or.inl (own_w hw (i := 13) rfl)) Via.refl e55 f44 (g := (mkF m 58 #[uR a1, uL q2, uS, uI 2] [(.ref a1), (.int 2), (.ref aP)])) rfl rfl (hb hby d3_58)
  obtain ⟨T57, X57, e57, st57⟩ := getF X56 hx hZ hown (host := "") (Or.inl (own_w hw (i := 27) rfl)) Via.refl e56 f46 (g := (mkF m 63 #[uR a1, uL q2, uS, uI 2] [(.ref a1), (.int 0), (.ref aP), (.int 2), (.ref aP)])) rfl rfl (hb hby d3_63)
  obtain ⟨T58, h58, L58, X58, e58, N58, Kc58, V58, st58⟩ := cpA X57 hx hZ hown (own_w hw (i := 41) rfl) (own_w hw (i := 44) rfl) (own_w hw (i := 42) rfl) (own_w hw (i := 43) rfl) e57 f48 f48 (sp := (2 : Int32)) (dp := (0 : Int32)) (nn := (1 : Int32)) (us := [(.long 30)]) (Or.inl ⟨rfl, rfl⟩) (by decide) (by decide) (by decide) (by decide) (by decide) rfl (Nat.le_of_ble_eq_true rfl) N41 g_aP (g := (mkF m 66 #[uR a1, uL q2, uS, uI 2] [(.int 1), (.int 0), (.ref aP), (.int 2), (.ref aP)])) rfl (by rw [hml]; rfl) rfl (hb hby d3_66) (by decide) (W := 0) (by show 2 * 0 + _ ≤ _; exact Nat.le_of_eq rfl) (by decide)
  have Kd58 : Keep h41 h58 [aP] := Kc58
  have f59 := f42.keep Kd58
  have f60 := f43.keep Kd58 (ninS ne_a1_aP nin0)
  have f61 := f44.keep Kd58 (ninS ne_a1_aP nin0)
  have f62 := f45.keep Kd58 (ninS ne_a1_aP nin0)
  have f63 := f46.keep Kd58 (ninS ne_a1_aP nin0)
  have f64 := f47.keep Kd58 (ninS ne_a1_aP nin0)
  have f65 := f49.keep Kd58 (ninS (Ne.symm ne_aP_aM) nin0)
  have f66 := f50.keep Kd58
  have f67 := f51.keep Kd58
  have f68 := f52.keep Kd58
  have f69 := Vx41.keep Kd58 (ninS ne_aB_aP nin0)
  have zs70 : n0 ≤ h58.size := Nat.le_trans zs53 Kd58.1
  have K71 := K54.trans Kd58 (allS (Or.inl (List.mem_of_getElem? (i := 2) rfl)) all0)
  have Vx58 : Arv Z h58 aP kP .long (8 : Int32) [(.long 30), (.long 20), (.long 30), (.long 0), (.long 0), (.long 0), (.long 0), (.long 0)] (.long 0) := V58
  obtain ⟨T72, X72, e72, st72⟩ := getF X58 hx hZ hown (host := "") (Or.inl (own_w hw (i := 15) rfl)) Via.refl e58 f62 (g := (mkF m 70 #[uR a1, uL q2, uS, uI 2] [(.ref a1)])) rfl rfl (hb hby d3_70)
  obtain ⟨T73, X73, e73, st73⟩ := getF X72 hx hZ hown (host := "") (Or.inl (own_w hw (i := 15) rfl)) Via.refl e72 f62 (g := (mkF m 75 #[uR a1, uL q2, uS, uI 2] [(.ref a1), (.int 2), (.ref aM)])) rfl rfl (hb hby d3_75)
  obtain ⟨T74, X74, e74, st74⟩ := getF X73 hx hZ hown (host := "") (Or.inl (own_w hw (i := 27) rfl)) Via.refl e73 f63 (g := (mkF m 80 #[uR a1, uL q2, uS, uI 2] [(.ref a1), (.int 0), (.ref aM), (.int 2), (.ref aM)])) rfl rfl (hb hby d3_80)
  obtain ⟨T75, h75, L75, X75, e75, N75, Kc75, V75, st75⟩ := cpA X74 hx hZ hown (own_w hw (i := 41) rfl) (own_w hw (i := 44) rfl) (own_w hw (i := 42) rfl) (own_w hw (i := 43) rfl) e74 f65 f65 (sp := (2 : Int32)) (dp := (0 : Int32)) (nn := (1 : Int32)) (us := [(.long x2)]) (Or.inl ⟨rfl, rfl⟩) (by decide) (by decide) (by decide) (by decide) (by decide) rfl (Nat.le_of_ble_eq_true rfl) N58 g_aM (g := (mkF m 83 #[uR a1, uL q2, uS, uI 2] [(.int 1), (.int 0), (.ref aM), (.int 2), (.ref aM)])) rfl (by rw [hml]; rfl) rfl (hb hby d3_83) (by decide) (W := 0) (by show 2 * 0 + _ ≤ _; exact Nat.le_of_eq rfl) (by decide)
  have Kd75 : Keep h58 h75 [aM] := Kc75
  have f76 := f59.keep Kd75
  have f77 := f60.keep Kd75 (ninS ne_a1_aM nin0)
  have f78 := f61.keep Kd75 (ninS ne_a1_aM nin0)
  have f79 := f62.keep Kd75 (ninS ne_a1_aM nin0)
  have f80 := f63.keep Kd75 (ninS ne_a1_aM nin0)
  have f81 := f64.keep Kd75 (ninS ne_a1_aM nin0)
  have f82 := f66.keep Kd75
  have f83 := f67.keep Kd75
  have f84 := f68.keep Kd75
  have f85 := f69.keep Kd75 (ninS ne_aB_aM nin0)
  have f86 := Vx58.keep Kd75 (ninS ne_aP_aM nin0)
  have zs87 : n0 ≤ h75.size := Nat.le_trans zs70 Kd75.1
  have K88 := K71.trans Kd75 (allS (Or.inl (List.mem_of_getElem? (i := 3) rfl)) all0)
  have Vx75 : Arv Z h75 aM kM .long (8 : Int32) [(.long x2), (.long x1), (.long x2), (.long x3), (.long x4), (.long x5), (.long x6), (.long x7)] (.long 0) := V75
  obtain ⟨T89, X89, e89, st89⟩ := getF X75 hx hZ hown (host := "") (Or.inl (own_w hw (i := 27) rfl)) Via.refl e75 f80 (g := (mkF m 88 #[uR a1, uL q2, uS, uI 2] [(.ref a1), (.ref a1)])) rfl rfl (hb hby d3_88)
  -- pc 95: Math.max by rmmx2
  obtain ⟨_, _, ⟨T90, L90, ck90, cn90⟩, -, X90, ⟨Lc90, hQ90, l90, y90, z90⟩, st90⟩ := Jvm.LawKit.callS X89 hx (y := (⟨"java/lang/Math", "max", "(II)I"⟩ : MethodName)) hown (mvT hZ (own_w hw (i := 45) rfl)) (mvT hZ (own_w hw (i := 46) rfl)) (mvT hZ (own_w hw (i := 47) rfl)) (mvT hZ (own_w hw (i := 48) rfl)) (by decide) (backOf (W := 1) (rmmx2 l Z a0 hw [] (2 : Int32) (8 : Int32) h75 n0 zs87 (by decide)) hZ (own_w hw (i := 48) rfl) (own_w hw (i := 47) rfl) (by decide) (by decide)) (g := (mkF m 95 #[uR a1, uL q2, uS, uI 2] [(.int 8), (.int 2), (.ref a1)])) rfl (by rw [hml]; rfl) (argsL := [(.int 2), (.int 8)]) (rest := [(.ref a1)]) (lenOf pd_47 rfl) rfl (by show 2 * 0 + _ ≤ _; exact Nat.le_of_eq rfl) (hb hby d3_95) (fun _ _ => ⟨rfl, e89, (by decide : 0 + 0 ≤ _), (by decide : 0 + 0 ≤ _)⟩)
  dsimp only [Pt.U, Pt.locs, Pt.cells, Pt.slots] at X90 l90 y90 z90 st90 hQ90
  subst y90 z90
  obtain ⟨rfl, N90q, e90⟩ := hQ90
  have N91 : Fr n0 L90 := by rw [l90]; exact Fr.app N75 N90q
  -- pc 98: BatchIndex.resize by rmrz8
  obtain ⟨cq92, qc92, qc92'⟩ := f76.cell
  obtain ⟨_, _, ⟨T92, L92, ck92, cn92⟩, -, X92, ⟨Lc92, hQ92, l92, y92, z92⟩, st92⟩ := X90.privateBack hx (y := (⟨KC, "resize", "(I)V"⟩ : MethodName)) hown (mvT hZ (own_w hw (i := 49) rfl)) (mvT hZ (own_w hw (i := 50) rfl)) (own_sel (y := (⟨KC, "resize", "(I)V"⟩ : MethodName)) (mvT hZ (own_w hw (i := 1) rfl)) (Cond.privateMethod_at (mvP hZ (own_w hw (i := 51) rfl) (args := #[]))) (mvT hZ (own_w hw (i := 50) rfl)) (by decide)) (Cond.privateMethod_at (mvP hZ (own_w hw (i := 51) rfl) (args := #[]))) (mvT hZ (own_w hw (i := 52) rfl)) (by decide) (backOf (W := 0) (rmrz8 l Z a0 hw [] a1 aB aP aM kB kP kM (1 : Int32) (2 : Int64) b2 b1 b2 b3 b4 b5 b6 b7 (30 : Int64) (20 : Int64) (30 : Int64) (0 : Int64) (0 : Int64) (0 : Int64) (0 : Int64) (0 : Int64) x2 x1 x2 x3 x4 x5 x6 x7 h75 n0 zs87 f76 f80 f81 f77 f78 f79 f85 f86 Vx75 f82 f83 f84 g_a1 ne_a1_aB ne_a1_aP ne_a1_aM ne_aB_aP ne_aB_aM ne_aP_aM) hZ (own_w hw (i := 52) rfl) (own_w hw (i := 2) rfl) (by decide) (by decide)) (g := (mkF m 98 #[uR a1, uL q2, uS, uI 2] [(.int 8), (.ref a1)])) rfl (by rw [hml]; rfl) (Steps.refl _) (a := a1) (by rw [e90]; exact qc92) qc92' (argsL := [(.int 8)]) (rest := []) (lenOf pd_114 rfl) rfl (by show 2 * 0 + _ ≤ _; exact Nat.le_of_eq rfl) (hb hby d3_98) (fun _ _ => ⟨rfl, e90, (by decide : 0 + 3 ≤ _), (by decide : 0 + 24 ≤ _)⟩)
  dsimp only [Pt.U, Pt.locs, Pt.cells, Pt.slots] at X92 l92 y92 z92 st92 hQ92
  subst y92 z92
  obtain ⟨n1_92, kn1_92, n2_92, kn2_92, n3_92, kn3_92, rfl, N92q, K92q, gq92_0, gq92_1, gq92_2, sq92_0, sq92_1, sq92_2, nq92_1_0, nq92_2_0, nq92_2_1, o92_0, o92_1, o92_2, o92_3, o92_4, o92_5, o92_6, o92_7, o92_8, o92_9, o92_10, o92_11⟩ := hQ92
  have N93 : Fr n0 L92 := by rw [l92]; exact Fr.app N91 N92q
  have sz_n1_92 : h0.size ≤ n1_92 := Nat.le_trans K88.1 sq92_0
  have sz_n2_92 : h0.size ≤ n2_92 := Nat.le_trans K88.1 sq92_1
  have sz_n3_92 : h0.size ≤ n3_92 := Nat.le_trans K88.1 sq92_2
  have K119 := K88.trans K92q (allS (Or.inl (List.mem_of_getElem? (i := 0) rfl)) all0)
  obtain ⟨fs, hr, hrun, hended, hW, hsame⟩ := X92.leave (v := none) (fun _ => rfl) Bd.notSynchronized
  refine ⟨_, _, pre0 _ ?_, hrun, hended, _, _, rfl, ?_, ⟨_, rfl⟩, hW, hsame.mono (by decide) (by decide)⟩
  · show Steps p.tables e below (s₁.setTop (mkF m 0 #[uR a1, uL q2, uS, uU] [])) _
    refine XS.aloadN X0.here hx rfl (hb hby d3_0) rfl rfl ?_
    refine XS.aloadN X0.here hx rfl (hb hby d3_1) rfl rfl ?_
    refine st1 _ ?_
    refine XS.lloadN X1.here hx rfl (hb hby d3_5) rfl ?_
    refine XS.lconst X1.here hx rfl (hb hby d3_6) ?_
    refine XS.lsub X1.here hx rfl (hb hby d3_7) rfl ?_
    refine st2.trans ?_
    refine XS.iconst X2.here hx rfl (hb hby d3_11) ?_
    refine XS.iadd X2.here hx rfl (hb hby d3_12) rfl ?_
    refine XS.istoreN X2.here hx rfl (hb hby d3_13) rfl (l' := #[uR a1, uL q2, uS, uI 2]) rfl ?_
    refine XS.aloadN X2.here hx rfl (hb hby d3_14) rfl rfl ?_
    refine XS.dup X2.here hx rfl (hb hby d3_15) rfl rfl ?_
    refine st4 _ ?_
    refine XS.iloadN X4.here hx rfl (hb hby d3_19) rfl ?_
    refine XS.isub X4.here hx rfl (hb hby d3_20) rfl ?_
    refine st5 _ ?_
    show Steps p.tables e below (T5.setTop (mkF m 24 #[uR a1, uL q2, uS, uI 2] [])) _
    refine XS.aloadN X5.here hx rfl (hb hby d3_24) rfl rfl ?_
    refine XS.dup X5.here hx rfl (hb hby d3_25) rfl rfl ?_
    refine st21 _ ?_
    refine XS.iloadN X21.here hx rfl (hb hby d3_29) rfl ?_
    refine XS.i2l X21.here hx rfl (hb hby d3_30) rfl ?_
    refine XS.ladd X21.here hx rfl (hb hby d3_31) rfl ?_
    refine st22 _ ?_
    refine XS.aloadN X22.here hx rfl (hb hby d3_35) rfl rfl ?_
    refine st38 _ ?_
    refine XS.iloadN X38.here hx rfl (hb hby d3_39) rfl ?_
    refine XS.aloadN X38.here hx rfl (hb hby d3_40) rfl rfl ?_
    refine st39 _ ?_
    refine XS.iconst X39.here hx rfl (hb hby d3_44) ?_
    refine XS.aloadN X39.here hx rfl (hb hby d3_45) rfl rfl ?_
    refine st40 _ ?_
    refine st41 _ ?_
    show Steps p.tables e below (T41.setTop (mkF m 52 #[uR a1, uL q2, uS, uI 2] [])) _
    refine XS.aloadN X41.here hx rfl (hb hby d3_52) rfl rfl ?_
    refine st55 _ ?_
    refine XS.iloadN X55.here hx rfl (hb hby d3_56) rfl ?_
    refine XS.aloadN X55.here hx rfl (hb hby d3_57) rfl rfl ?_
    refine st56 _ ?_
    refine XS.iconst X56.here hx rfl (hb hby d3_61) ?_
    refine XS.aloadN X56.here hx rfl (hb hby d3_62) rfl rfl ?_
    refine st57 _ ?_
    refine st58 _ ?_
    refine XS.aloadN X58.here hx rfl (hb hby d3_69) rfl rfl ?_
    refine st72 _ ?_
    refine XS.iloadN X72.here hx rfl (hb hby d3_73) rfl ?_
    refine XS.aloadN X72.here hx rfl (hb hby d3_74) rfl rfl ?_
    refine st73 _ ?_
    refine XS.iconst X73.here hx rfl (hb hby d3_78) ?_
    refine XS.aloadN X73.here hx rfl (hb hby d3_79) rfl rfl ?_
    show Steps p.tables e below (T73.setTop (mkF m 80 #[uR a1, uL q2, uS, uI 2] [(.ref a1), (.int 0), (.ref aM), (.int 2), (.ref aM)])) _
    refine st74 _ ?_
    refine st75 _ ?_
    refine XS.aloadN X75.here hx rfl (hb hby d3_86) rfl rfl ?_
    refine XS.aloadN X75.here hx rfl (hb hby d3_87) rfl rfl ?_
    refine st89 _ ?_
    refine XS.iconst X89.here hx rfl (hb hby d3_91) ?_
    refine XS.imul X89.here hx rfl (hb hby d3_92) rfl ?_
    refine XS.bipush X89.here hx rfl (hb hby d3_93) ?_
    refine st90 _ ?_
    refine st92.trans ?_
    exact X92.returnOut hx Bd.returns (hb hby d3_101) hr
  · show Qdr32 Z a1 q2 aB aP aM kB kP kM b0 b1 b2 b3 b4 b5 b6 b7 x0 x1 x2 x3 x4 x5 x6 x7 h0 n0 _ T92.heap _
    exact ⟨n1_92, kn1_92, n2_92, kn2_92, n3_92, kn3_92, rfl, N93, K119, gq92_0, gq92_1, gq92_2, sz_n1_92, sz_n2_92, sz_n3_92, nq92_1_0, nq92_2_0, nq92_2_1, o92_0, o92_4, o92_5, o92_3, o92_10⟩
theorem ef_dr33 (m : MethodId) (x0 : Addr) (x1 : Int64) : entryFrame m #[(.ref x0), (.long x1)] 4 = mkF m 0 #[.val (.ref x0), .val (.long x1), .second, .unset] [] := by first | (simp [entryFrame, mkF, argsToLocals, Value.category]; done) | rfl
abbrev R_dr33 : Room := { frames := 3, cells := 3, slots := 24, locals := 56 }
def Qdr33 (Z : State) (a1 : Addr) (q2 : Int64) (aB : Addr) (aP : Addr) (aM : Addr) (kB : ClassId) (kP : ClassId) (kM : ClassId) (b0 : Int64) (b1 : Int64) (b2 : Int64) (b3 : Int64) (b4 : Int64) (b5 : Int64) (b6 : Int64) (b7 : Int64) (x0 : Int64) (x1 : Int64) (x2 : Int64) (x3 : Int64) (x4 : Int64) (x5 : Int64) (x6 : Int64) (x7 : Int64) (h0 : Heap) (n0 : Nat) (v : Option Value) (h : Heap) (L : List Loc) : Prop := ∃ (n1 : Addr) (kn1 : ClassId) (n2 : Addr) (kn2 : ClassId) (n3 : Addr) (kn3 : ClassId), v = none ∧ Fr n0 L ∧ Keep h0 h [a1, aB, aP, aM] ∧ n0 ≤ n1 ∧ n0 ≤ n2 ∧ n0 ≤ n3 ∧ h0.size ≤ n1 ∧ h0.size ≤ n2 ∧ h0.size ≤ n3 ∧ n2 ≠ n1 ∧ n3 ≠ n1 ∧ n3 ≠ n2 ∧ Exa Z h a1 KC ∧ Fld Z h a1 KC "count" "I" (.int 0) ∧ Fld Z h a1 KC "first" "J" (.long 3) ∧ Fld Z h a1 KC KM "[J" (.ref n3) ∧ Arv Z h n3 kn3 .long (8 : Int32) [(.long x0), (.long x1), (.long x2), (.long x3), (.long x4), (.long x5), (.long x6), (.long x7)] (.long 0)
set_option maxRecDepth 65536 in
set_option maxHeartbeats 40000000 in
theorem rmdr33 (l : Launch) (Z : State) (a0 : Array Value) (hw : ∀ d ∈ tables_1, d.before a0 Z = true) (ws : List Jvm.Cond) (a1 : Addr) (q2 : Int64) (aB : Addr) (aP : Addr) (aM : Addr) (kB : ClassId) (kP : ClassId) (kM : ClassId) (b0 : Int64) (b1 : Int64) (b2 : Int64) (b3 : Int64) (b4 : Int64) (b5 : Int64) (b6 : Int64) (b7 : Int64) (x0 : Int64) (x1 : Int64) (x2 : Int64) (x3 : Int64) (x4 : Int64) (x5 : Int64) (x6 : Int64) (x7 : Int64) (h0 : Heap) (n0 : Nat) (Z0 : n0 ≤ h0.size) (E_a1 : Exa Z h0 a1 KC) (F_baseOffsets_a1 : Fld Z h0 a1 KC KB "[J" (.ref aB)) (F_positions_a1 : Fld Z h0 a1 KC KP "[J" (.ref aP)) (F_maxTimestampsSoFar_a1 : Fld Z h0 a1 KC KM "[J" (.ref aM)) (F_count_a1 : Fld Z h0 a1 KC "count" "I" (.int 3)) (F_first_a1 : Fld Z h0 a1 KC "first" "J" (.long 0)) (V_aB : Arv Z h0 aB kB .long (8 : Int32) [(.long b0), (.long b1), (.long b2), (.long b3), (.long b4), (.long b5), (.long b6), (.long b7)] (.long 0)) (V_aP : Arv Z h0 aP kP .long (8 : Int32) [(.long 10), (.long 20), (.long 30), (.long 0), (.long 0), (.long 0), (.long 0), (.long 0)] (.long 0)) (V_aM : Arv Z h0 aM kM .long (8 : Int32) [(.long x0), (.long x1), (.long x2), (.long x3), (.long x4), (.long x5), (.long x6), (.long x7)] (.long 0)) (E_aB : Exa Z h0 aB "[J") (E_aP : Exa Z h0 aP "[J") (E_aM : Exa Z h0 aM "[J") (g_a1 : n0 ≤ a1) (g_aB : n0 ≤ aB) (g_aP : n0 ≤ aP) (g_aM : n0 ≤ aM) (ne_a1_aB : a1 ≠ aB) (ne_a1_aP : a1 ≠ aP) (ne_a1_aM : a1 ≠ aM) (ne_aB_aP : aB ≠ aP) (ne_aB_aM : aB ≠ aM) (ne_aP_aM : aP ≠ aM) (hk : (fla_3 (q2 - (1 : Int64))) = (2 : Int32)) :
    MetFree l (⟨KC, "dropBefore", "(J)V"⟩ : MethodName) (head1 (Jvm.Cond.code (⟨KC, "dropBefore", "(J)V"⟩ : MethodName) prog_126_method_11_code 4 none :: ws) R_dr33) (fun a U => a = #[(.ref a1), (.long q2)] ∧ Z.Warmed39 U.vm ∧ U.heap = h0) (fun _ _ _ _ _ => True) (fun _ U o U' => ∃ v L, o = .returned v ∧ Qdr33 Z a1 q2 aB aP aM kB kP kM b0 b1 b2 b3 b4 b5 b6 b7 x0 x1 x2 x3 x4 x5 x6 x7 h0 n0 v U'.heap L ∧ FrameEnd U o U' L R_dr33.cells R_dr33.slots) := by
  refine MetFree.of_bodySF (plainFor_of_name pn_55) hisR ?_
  intro p e s m args below meth c s₁ Bd hml0 hP hK
  obtain ⟨rfl, hZ, hh⟩ := hP
  have hx := Bd.exec
  have hby := Bd.bytes
  have hml : c.maxLocals = 4 := hml0
  have hown : s.vm.findClass KC = some m.cls := findClass_of_methodNamed Bd.named
  have hnm := (name_of_methodNamed Bd.named Bd.method).1
  have X0 : Stand p l e R_dr33 s m #[(.ref a1), (.long q2)] below meth c s₁ [] 0 0 := Stand.of_body Bd
  have e0 : s₁.heap = h0 := by rw [← hh, Bd.state]; rfl
  have N0 := Fr.nil n0
  have pre0 : ∀ t, Steps p.tables e below (s₁.setTop (mkF m 0 #[uR a1, uL q2, uS, uU] [])) t → Steps p.tables e below (s₁.setTop (entryFrame m #[(.ref a1), (.long q2)] 4)) t := fun t k => castTop (ef_dr33 m a1 q2) k
  obtain ⟨T1, X1, e1, st1⟩ := getF X0 hx hZ hown (host := "") (Or.inl (own_w hw (i := 13) rfl)) Via.refl e0 F_positions_a1 (g := (mkF m 2 #[uR a1, uL q2, uS, uU] [(.ref a1), (.ref a1)])) rfl rfl (hb hby d3_2)
  -- pc 8: BatchIndex.lastAtOrBefore by rmla_3
  obtain ⟨cq2, qc2, qc2'⟩ := E_a1.cell
  obtain ⟨_, _, ⟨T2, L2, ck2, cn2⟩, -, X2, ⟨Lc2, hQ2, l2, y2, z2⟩, st2⟩ := X1.privateBack hx (y := (⟨KC, "lastAtOrBefore", "([JJ)I"⟩ : MethodName)) hown (mvT hZ (own_w hw (i := 23) rfl)) (mvT hZ (own_w hw (i := 24) rfl)) (own_sel (y := (⟨KC, "lastAtOrBefore", "([JJ)I"⟩ : MethodName)) (mvT hZ (own_w hw (i := 1) rfl)) (Cond.privateMethod_at (mvP hZ (own_w hw (i := 25) rfl) (args := #[]))) (mvT hZ (own_w hw (i := 24) rfl)) (by decide)) (Cond.privateMethod_at (mvP hZ (own_w hw (i := 25) rfl) (args := #[]))) (mvT hZ (own_w hw (i := 26) rfl)) (by decide) (backOf (W := 0) (rmla_3 l Z a0 hw [] a1 aP (q2 - (1 : Int64)) kP (2 : Int32) h0 n0 Z0 F_count_a1 V_aP hk) hZ (own_w hw (i := 26) rfl) (own_w hw (i := 2) rfl) (by decide) (by decide)) (g := (mkF m 8 #[uR a1, uL q2, uS, uU] [(.long (q2 - (1 : Int64))), (.ref aP), (.ref a1)])) rfl (by rw [hml]; rfl) (Steps.refl _) (a := a1) (by rw [e1]; exact qc2) qc2' (argsL := [(.ref aP), (.long (q2 - (1 : Int64)))]) (rest := []) (lenOf pd_239 rfl) rfl (by show 2 * 0 + _ ≤ _; exact Nat.le_of_eq rfl) (hb hby d3_8) (fun _ _ => ⟨rfl, e1, (by decide : 0 + 0 ≤ _), (by decide : 0 + 0 ≤ _)⟩)
  dsimp only [Pt.U, Pt.locs, Pt.cells, Pt.slots] at X2 l2 y2 z2 st2 hQ2
  subst y2 z2
  obtain ⟨rfl, N2q, e2⟩ := hQ2
  have N3 : Fr n0 L2 := by rw [l2]; exact Fr.app N0 N2q
  obtain ⟨T4, X4, e4, st4⟩ := getF X2 hx hZ hown (host := "") (Or.inl (own_w hw (i := 27) rfl)) Via.refl e2 F_count_a1 (g := (mkF m 16 #[uR a1, uL q2, uS, uI 3] [(.ref a1), (.ref a1)])) rfl rfl (hb hby d3_16)
  obtain ⟨T5, h5, X5, e5, W5, st5⟩ := putF X4 hx hZ hown (host := "") (Or.inl (own_w hw (i := 27) rfl)) Via.refl e4 F_count_a1 E_a1 (Or.inl (own_w hw (i := 28) rfl)) (own_w hw (i := 1) rfl) (ty := .int) (by decide) rfl rfl (g := (mkF m 21 #[uR a1, uL q2, uS, uI 3] [(.int 0), (.ref a1)])) rfl rfl (hb hby d3_21)
  have f6 := E_a1.wr W5
  have f7 := F_baseOffsets_a1.other W5 (Or.inr (sn_143 hw))
  have f8 := F_positions_a1.other W5 (Or.inr (sn_144 hw))
  have f9 := F_maxTimestampsSoFar_a1.other W5 (Or.inr (sn_145 hw))
  have f10 := F_count_a1.same W5
  have f11 := F_first_a1.other W5 (Or.inr (sn_146 hw))
  have f12 := V_aB.other W5 (Ne.symm ne_a1_aB)
  have f13 := V_aP.other W5 (Ne.symm ne_a1_aP)
  have f14 := V_aM.other W5 (Ne.symm ne_a1_aM)
  have f15 := E_aB.wr W5
  have f16 := E_aP.wr W5
  have f17 := E_aM.wr W5
  have K18 := (Keep.refl h0 [a1, aB, aP, aM]).wr W5 (Or.inl (List.mem_of_getElem? (i := 0) rfl))
  have zs19 : n0 ≤ h5.size := Nat.le_trans Z0 (Keep.of_wr W5).1
  have N20 := Fr.snoc X5 N3 g_a1
  obtain ⟨T21, X21, e21, st21⟩ := getF X5 hx hZ hown (host := "") (Or.inl (own_w hw (i := 39) rfl)) Via.refl e5 f11 (g := (mkF m 26 #[uR a1, uL q2, uS, uI 3] [(.ref a1), (.ref a1)])) rfl rfl (hb hby d3_26)
  obtain ⟨T22, h22, X22, e22, W22, st22⟩ := putF X21 hx hZ hown (host := "") (Or.inl (own_w hw (i := 39) rfl)) Via.refl e21 f11 f6 (Or.inl (own_w hw (i := 40) rfl)) (own_w hw (i := 1) rfl) (ty := .long) (by decide) rfl rfl (g := (mkF m 32 #[uR a1, uL q2, uS, uI 3] [(.long 3), (.ref a1)])) rfl rfl (hb hby d3_32)
  have f23 := f6.wr W22
  have f24 := f7.other W22 (Or.inr (sn_256 hw))
  have f25 := f8.other W22 (Or.inr (sn_257 hw))
  have f26 := f9.other W22 (Or.inr (sn_258 hw))
  have f27 := f10.other W22 (Or.inr (sn_259 hw))
  have f28 := f11.same W22
  have f29 := f12.other W22 (Ne.symm ne_a1_aB)
  have f30 := f13.other W22 (Ne.symm ne_a1_aP)
  have f31 := f14.other W22 (Ne.symm ne_a1_aM)
  have f32 := f15.wr W22
  have f33 := f16.wr W22
  have f34 := f17.wr W22
  have K35 := K18.wr W22 (Or.inl (List.mem_of_getElem? (i := 0) rfl))
  have zs36 : n0 ≤ h22.size := Nat.le_trans zs19 (Keep.of_wr W22).1
  have N37 := Fr.snoc X22 N20 g_a1
  obtain ⟨T38, X38, e38, st38⟩ := getF X22 hx hZ hown (host := "") (Or.inl (own_w hw (i := 11) rfl)) Via.refl e22 f24 (g := (mkF m 36 #[uR a1, uL q2, uS, uI 3] [(.ref a1)])) rfl rfl (hb hby d3_36)
  obtain ⟨T39, X39, e39, st39⟩ := getF X38 hx hZ hown (host := "") (Or.inl (own_w hw (i := 11) rfl)) Via.refl e38 f24 (g := (mkF m 41 #[uR a1, uL q2, uS, uI 3] [(.ref a1), (.int 3), (.ref aB)])) rfl rfl (hb hby d3_41)
  obtain ⟨T40, X40, e40, st40⟩ := getF X39 hx hZ hown (host := "") (Or.inl (own_w hw (i := 27) rfl)) Via.refl e39 f27 (g := (mkF m 46 #[uR a1, uL q2, uS, uI 3] [(.ref a1), (.int 0), (.ref aB), (.int 3), (.ref aB)])) rfl rfl (hb hby d3_46)
  obtain ⟨T41, h41, L41, X41, e41, N41, Kc41, V41, st41⟩ := cpA X40 hx hZ hown (own_w hw (i := 41) rfl) (own_w hw (i := 44) rfl) (own_w hw (i := 42) rfl) (own_w hw (i := 43) rfl) e40 f29 f29 (sp := (3 : Int32)) (dp := (0 : Int32)) (nn := (0 : Int32)) (us := []) (Or.inl ⟨rfl, rfl⟩) (by decide) (by decide) (by decide) (by decide) (by decide) rfl (Nat.le_of_ble_eq_true rfl) N37 g_aB (g := (mkF m 49 #[uR a1, uL q2, uS, uI 3] [(.int 0), (.int 0), (.ref aB), (.int 3), (.ref aB)])) rfl (by rw [hml]; rfl) rfl (hb hby d3_49) (by decide) (W := 0) (by show 2 * 0 + _ ≤ _; exact Nat.le_of_eq rfl) (by decide)
  have Kd41 : Keep h22 h41 [aB] := Kc41
  have f42 := f23.keep Kd41
  have f43 := f24.keep Kd41 (ninS ne_a1_aB nin0)
  have f44 := f25.keep Kd41 (ninS ne_a1_aB nin0)
  have f45 := f26.keep Kd41 (ninS ne_a1_aB nin0)
  have f46 := f27.keep Kd41 (ninS ne_a1_aB nin0)
  have f47 := f28.keep Kd41 (ninS ne_a1_aB nin0)
  have f48 := f30.keep Kd41 (ninS (Ne.symm ne_aB_aP) nin0)
  have f49 := f31.keep Kd41 (ninS (Ne.symm ne_aB_aM) nin0)
  have f50 := f32.keep Kd41
  have f51 := f33.keep Kd41
  have f52 := f34.keep Kd41
  have zs53 : n0 ≤ h41.size := Nat.le_trans zs36 Kd41.1
  have K54 := K35.trans Kd41 (allS (Or.inl (List.mem_of_getElem? (i := 1) rfl)) all0)
  have Vx41 : Arv Z h41 aB kB .long (8 : Int32) [(.long b0), (.long b1), (.long b2), (.long b3), (.long b4), (.long b5), (.long b6), (.long b7)] (.long 0) := V41
  obtain ⟨T55, X55, e55, st55⟩ := getF X41 hx hZ hown (host := "") (Or.inl (own_w hw (i := 13) rfl)) Via.refl e41 f44 (g := (mkF m 53 #[uR a1, uL q2, uS, uI 3] [(.ref a1)])) rfl rfl (hb hby d3_53)
  obtain ⟨T56, X56, e56, st56⟩ := getF X55 hx hZ hown (host := "") (Or.inl (own_w hw (i := 13) rfl)) Via.refl e55 f44 (g := (mkF m 58 #[uR a1, uL q2, uS, uI 3] [(.ref a1), (.int 3), (.ref aP)])) rfl rfl (hb hby d3_58)
  obtain ⟨T57, X57, e57, st57⟩ := getF X56 hx hZ hown (host := "") (Or.inl (own_w hw (i := 27) rfl)) Via.refl e56 f46 (g := (mkF m 63 #[uR a1, uL q2, uS, uI 3] [(.ref a1), (.int 0), (.ref aP), (.int 3), (.ref aP)])) rfl rfl (hb hby d3_63)
  obtain ⟨T58, h58, L58, X58, e58, N58, Kc58, V58, st58⟩ := cpA X57 hx hZ hown (own_w hw (i := 41) rfl) (own_w hw (i := 44) rfl) (own_w hw (i := 42) rfl) (own_w hw (i := 43) rfl) e57 f48 f48 (sp := (3 : Int32)) (dp := (0 : Int32)) (nn := (0 : Int32)) (us := []) (Or.inl ⟨rfl, rfl⟩) (by decide) (by decide) (by decide) (by decide) (by decide) rfl (Nat.le_of_ble_eq_true rfl) N41 g_aP (g := (mkF m 66 #[uR a1, uL q2, uS, uI 3] [(.int 0), (.int 0), (.ref aP), (.int 3), (.ref aP)])) rfl (by rw [hml]; rfl) rfl (hb hby d3_66) (by decide) (W := 0) (by show 2 * 0 + _ ≤ _; exact Nat.le_of_eq rfl) (by decide)
  have Kd58 : Keep h41 h58 [aP] := Kc58
  have f59 := f42.keep Kd58
  have f60 := f43.keep Kd58 (ninS ne_a1_aP nin0)
  have f61 := f44.keep Kd58 (ninS ne_a1_aP nin0)
  have f62 := f45.keep Kd58 (ninS ne_a1_aP nin0)
  have f63 := f46.keep Kd58 (ninS ne_a1_aP nin0)
  have f64 := f47.keep Kd58 (ninS ne_a1_aP nin0)
  have f65 := f49.keep Kd58 (ninS (Ne.symm ne_aP_aM) nin0)
  have f66 := f50.keep Kd58
  have f67 := f51.keep Kd58
  have f68 := f52.keep Kd58
  have f69 := Vx41.keep Kd58 (ninS ne_aB_aP nin0)
  have zs70 : n0 ≤ h58.size := Nat.le_trans zs53 Kd58.1
  have K71 := K54.trans Kd58 (allS (Or.inl (List.mem_of_getElem? (i := 2) rfl)) all0)
  have Vx58 : Arv Z h58 aP kP .long (8 : Int32) [(.long 10), (.long 20), (.long 30), (.long 0), (.long 0), (.long 0), (.long 0), (.long 0)] (.long 0) := V58
  obtain ⟨T72, X72, e72, st72⟩ := getF X58 hx hZ hown (host := "") (Or.inl (own_w hw (i := 15) rfl)) Via.refl e58 f62 (g := (mkF m 70 #[uR a1, uL q2, uS, uI 3] [(.ref a1)])) rfl rfl (hb hby d3_70)
  obtain ⟨T73, X73, e73, st73⟩ := getF X72 hx hZ hown (host := "") (Or.inl (own_w hw (i := 15) rfl)) Via.refl e72 f62 (g := (mkF m 75 #[uR a1, uL q2, uS, uI 3] [(.ref a1), (.int 3), (.ref aM)])) rfl rfl (hb hby d3_75)
  obtain ⟨T74, X74, e74, st74⟩ := getF X73 hx hZ hown (host := "") (Or.inl (own_w hw (i := 27) rfl)) Via.refl e73 f63 (g := (mkF m 80 #[uR a1, uL q2, uS, uI 3] [(.ref a1), (.int 0), (.ref aM), (.int 3), (.ref aM)])) rfl rfl (hb hby d3_80)
  obtain ⟨T75, h75, L75, X75, e75, N75, Kc75, V75, st75⟩ := cpA X74 hx hZ hown (own_w hw (i := 41) rfl) (own_w hw (i := 44) rfl) (own_w hw (i := 42) rfl) (own_w hw (i := 43) rfl) e74 f65 f65 (sp := (3 : Int32)) (dp := (0 : Int32)) (nn := (0 : Int32)) (us := []) (Or.inl ⟨rfl, rfl⟩) (by decide) (by decide) (by decide) (by decide) (by decide) rfl (Nat.le_of_ble_eq_true rfl) N58 g_aM (g := (mkF m 83 #[uR a1, uL q2, uS, uI 3] [(.int 0), (.int 0), (.ref aM), (.int 3), (.ref aM)])) rfl (by rw [hml]; rfl) rfl (hb hby d3_83) (by decide) (W := 0) (by show 2 * 0 + _ ≤ _; exact Nat.le_of_eq rfl) (by decide)
  have Kd75 : Keep h58 h75 [aM] := Kc75
  have f76 := f59.keep Kd75
  have f77 := f60.keep Kd75 (ninS ne_a1_aM nin0)
  have f78 := f61.keep Kd75 (ninS ne_a1_aM nin0)
  have f79 := f62.keep Kd75 (ninS ne_a1_aM nin0)
  have f80 := f63.keep Kd75 (ninS ne_a1_aM nin0)
  have f81 := f64.keep Kd75 (ninS ne_a1_aM nin0)
  have f82 := f66.keep Kd75
  have f83 := f67.keep Kd75
  have f84 := f68.keep Kd75
  have f85 := f69.keep Kd75 (ninS ne_aB_aM nin0)
  have f86 := Vx58.keep Kd75 (ninS ne_aP_aM nin0)
  have zs87 : n0 ≤ h75.size := Nat.le_trans zs70 Kd75.1
  have K88 := K71.trans Kd75 (allS (Or.inl (List.mem_of_getElem? (i := 3) rfl)) all0)
  have Vx75 : Arv Z h75 aM kM .long (8 : Int32) [(.long x0), (.long x1), (.long x2), (.long x3), (.long x4), (.long x5), (.long x6), (.long x7)] (.long 0) := V75
  obtain ⟨T89, X89, e89, st89⟩ := getF X75 hx hZ hown (host := "") (Or.inl (own_w hw (i := 27) rfl)) Via.refl e75 f80 (g := (mkF m 88 #[uR a1, uL q2, uS, uI 3] [(.ref a1), (.ref a1)])) rfl rfl (hb hby d3_88)
  -- pc 95: Math.max by rmmx2
  obtain ⟨_, _, ⟨T90, L90, ck90, cn90⟩, -, X90, ⟨Lc90, hQ90, l90, y90, z90⟩, st90⟩ := Jvm.LawKit.callS X89 hx (y := (⟨"java/lang/Math", "max", "(II)I"⟩ : MethodName)) hown (mvT hZ (own_w hw (i := 45) rfl)) (mvT hZ (own_w hw (i := 46) rfl)) (mvT hZ (own_w hw (i := 47) rfl)) (mvT hZ (own_w hw (i := 48) rfl)) (by decide) (backOf (W := 1) (rmmx2 l Z a0 hw [] (0 : Int32) (8 : Int32) h75 n0 zs87 (by decide)) hZ (own_w hw (i := 48) rfl) (own_w hw (i := 47) rfl) (by decide) (by decide)) (g := (mkF m 95 #[uR a1, uL q2, uS, uI 3] [(.int 8), (.int 0), (.ref a1)])) rfl (by rw [hml]; rfl) (argsL := [(.int 0), (.int 8)]) (rest := [(.ref a1)]) (lenOf pd_47 rfl) rfl (by show 2 * 0 + _ ≤ _; exact Nat.le_of_eq rfl) (hb hby d3_95) (fun _ _ => ⟨rfl, e89, (by decide : 0 + 0 ≤ _), (by decide : 0 + 0 ≤ _)⟩)
  dsimp only [Pt.U, Pt.locs, Pt.cells, Pt.slots] at X90 l90 y90 z90 st90 hQ90
  subst y90 z90
  obtain ⟨rfl, N90q, e90⟩ := hQ90
  have N91 : Fr n0 L90 := by rw [l90]; exact Fr.app N75 N90q
  -- pc 98: BatchIndex.resize by rmrz8
  obtain ⟨cq92, qc92, qc92'⟩ := f76.cell
  obtain ⟨_, _, ⟨T92, L92, ck92, cn92⟩, -, X92, ⟨Lc92, hQ92, l92, y92, z92⟩, st92⟩ := X90.privateBack hx (y := (⟨KC, "resize", "(I)V"⟩ : MethodName)) hown (mvT hZ (own_w hw (i := 49) rfl)) (mvT hZ (own_w hw (i := 50) rfl)) (own_sel (y := (⟨KC, "resize", "(I)V"⟩ : MethodName)) (mvT hZ (own_w hw (i := 1) rfl)) (Cond.privateMethod_at (mvP hZ (own_w hw (i := 51) rfl) (args := #[]))) (mvT hZ (own_w hw (i := 50) rfl)) (by decide)) (Cond.privateMethod_at (mvP hZ (own_w hw (i := 51) rfl) (args := #[]))) (mvT hZ (own_w hw (i := 52) rfl)) (by decide) (backOf (W := 0) (rmrz8 l Z a0 hw [] a1 aB aP aM kB kP kM (0 : Int32) (3 : Int64) b0 b1 b2 b3 b4 b5 b6 b7 (10 : Int64) (20 : Int64) (30 : Int64) (0 : Int64) (0 : Int64) (0 : Int64) (0 : Int64) (0 : Int64) x0 x1 x2 x3 x4 x5 x6 x7 h75 n0 zs87 f76 f80 f81 f77 f78 f79 f85 f86 Vx75 f82 f83 f84 g_a1 ne_a1_aB ne_a1_aP ne_a1_aM ne_aB_aP ne_aB_aM ne_aP_aM) hZ (own_w hw (i := 52) rfl) (own_w hw (i := 2) rfl) (by decide) (by decide)) (g := (mkF m 98 #[uR a1, uL q2, uS, uI 3] [(.int 8), (.ref a1)])) rfl (by rw [hml]; rfl) (Steps.refl _) (a := a1) (by rw [e90]; exact qc92) qc92' (argsL := [(.int 8)]) (rest := []) (lenOf pd_114 rfl) rfl (by show 2 * 0 + _ ≤ _; exact Nat.le_of_eq rfl) (hb hby d3_98) (fun _ _ => ⟨rfl, e90, (by decide : 0 + 3 ≤ _), (by decide : 0 + 24 ≤ _)⟩)
  dsimp only [Pt.U, Pt.locs, Pt.cells, Pt.slots] at X92 l92 y92 z92 st92 hQ92
  subst y92 z92
  obtain ⟨n1_92, kn1_92, n2_92, kn2_92, n3_92, kn3_92, rfl, N92q, K92q, gq92_0, gq92_1, gq92_2, sq92_0, sq92_1, sq92_2, nq92_1_0, nq92_2_0, nq92_2_1, o92_0, o92_1, o92_2, o92_3, o92_4, o92_5, o92_6, o92_7, o92_8, o92_9, o92_10, o92_11⟩ := hQ92
  have N93 : Fr n0 L92 := by rw [l92]; exact Fr.app N91 N92q
  have sz_n1_92 : h0.size ≤ n1_92 := Nat.le_trans K88.1 sq92_0
  have sz_n2_92 : h0.size ≤ n2_92 := Nat.le_trans K88.1 sq92_1
  have sz_n3_92 : h0.size ≤ n3_92 := Nat.le_trans K88.1 sq92_2
  have K119 := K88.trans K92q (allS (Or.inl (List.mem_of_getElem? (i := 0) rfl)) all0)
  obtain ⟨fs, hr, hrun, hended, hW, hsame⟩ := X92.leave (v := none) (fun _ => rfl) Bd.notSynchronized
  refine ⟨_, _, pre0 _ ?_, hrun, hended, _, _, rfl, ?_, ⟨_, rfl⟩, hW, hsame.mono (by decide) (by decide)⟩
  · show Steps p.tables e below (s₁.setTop (mkF m 0 #[uR a1, uL q2, uS, uU] [])) _
    refine XS.aloadN X0.here hx rfl (hb hby d3_0) rfl rfl ?_
    refine XS.aloadN X0.here hx rfl (hb hby d3_1) rfl rfl ?_
    refine st1 _ ?_
    refine XS.lloadN X1.here hx rfl (hb hby d3_5) rfl ?_
    refine XS.lconst X1.here hx rfl (hb hby d3_6) ?_
    refine XS.lsub X1.here hx rfl (hb hby d3_7) rfl ?_
    refine st2.trans ?_
    refine XS.iconst X2.here hx rfl (hb hby d3_11) ?_
    refine XS.iadd X2.here hx rfl (hb hby d3_12) rfl ?_
    refine XS.istoreN X2.here hx rfl (hb hby d3_13) rfl (l' := #[uR a1, uL q2, uS, uI 3]) rfl ?_
    refine XS.aloadN X2.here hx rfl (hb hby d3_14) rfl rfl ?_
    refine XS.dup X2.here hx rfl (hb hby d3_15) rfl rfl ?_
    refine st4 _ ?_
    refine XS.iloadN X4.here hx rfl (hb hby d3_19) rfl ?_
    refine XS.isub X4.here hx rfl (hb hby d3_20) rfl ?_
    refine st5 _ ?_
    show Steps p.tables e below (T5.setTop (mkF m 24 #[uR a1, uL q2, uS, uI 3] [])) _
    refine XS.aloadN X5.here hx rfl (hb hby d3_24) rfl rfl ?_
    refine XS.dup X5.here hx rfl (hb hby d3_25) rfl rfl ?_
    refine st21 _ ?_
    refine XS.iloadN X21.here hx rfl (hb hby d3_29) rfl ?_
    refine XS.i2l X21.here hx rfl (hb hby d3_30) rfl ?_
    refine XS.ladd X21.here hx rfl (hb hby d3_31) rfl ?_
    refine st22 _ ?_
    refine XS.aloadN X22.here hx rfl (hb hby d3_35) rfl rfl ?_
    refine st38 _ ?_
    refine XS.iloadN X38.here hx rfl (hb hby d3_39) rfl ?_
    refine XS.aloadN X38.here hx rfl (hb hby d3_40) rfl rfl ?_
    refine st39 _ ?_
    refine XS.iconst X39.here hx rfl (hb hby d3_44) ?_
    refine XS.aloadN X39.here hx rfl (hb hby d3_45) rfl rfl ?_
    refine st40 _ ?_
    refine st41 _ ?_
    show Steps p.tables e below (T41.setTop (mkF m 52 #[uR a1, uL q2, uS, uI 3] [])) _
    refine XS.aloadN X41.here hx rfl (hb hby d3_52) rfl rfl ?_
    refine st55 _ ?_
    refine XS.iloadN X55.here hx rfl (hb hby d3_56) rfl ?_
    refine XS.aloadN X55.here hx rfl (hb hby d3_57) rfl rfl ?_
    refine st56 _ ?_
    refine XS.iconst X56.here hx rfl (hb hby d3_61) ?_
    refine XS.aloadN X56.here hx rfl (hb hby d3_62) rfl rfl ?_
    refine st57 _ ?_
    refine st58 _ ?_
    refine XS.aloadN X58.here hx rfl (hb hby d3_69) rfl rfl ?_
    refine st72 _ ?_
    refine XS.iloadN X72.here hx rfl (hb hby d3_73) rfl ?_
    refine XS.aloadN X72.here hx rfl (hb hby d3_74) rfl rfl ?_
    refine st73 _ ?_
    refine XS.iconst X73.here hx rfl (hb hby d3_78) ?_
    refine XS.aloadN X73.here hx rfl (hb hby d3_79) rfl rfl ?_
    show Steps p.tables e below (T73.setTop (mkF m 80 #[uR a1, uL q2, uS, uI 3] [(.ref a1), (.int 0), (.ref aM), (.int 3), (.ref aM)])) _
    refine st74 _ ?_
    refine st75 _ ?_
    refine XS.aloadN X75.here hx rfl (hb hby d3_86) rfl rfl ?_
    refine XS.aloadN X75.here hx rfl (hb hby d3_87) rfl rfl ?_
    refine st89 _ ?_
    refine XS.iconst X89.here hx rfl (hb hby d3_91) ?_
    refine XS.imul X89.here hx rfl (hb hby d3_92) rfl ?_
    refine XS.bipush X89.here hx rfl (hb hby d3_93) ?_
    refine st90 _ ?_
    refine st92.trans ?_
    exact X92.returnOut hx Bd.returns (hb hby d3_101) hr
  · show Qdr33 Z a1 q2 aB aP aM kB kP kM b0 b1 b2 b3 b4 b5 b6 b7 x0 x1 x2 x3 x4 x5 x6 x7 h0 n0 _ T92.heap _
    exact ⟨n1_92, kn1_92, n2_92, kn2_92, n3_92, kn3_92, rfl, N93, K119, gq92_0, gq92_1, gq92_2, sz_n1_92, sz_n2_92, sz_n3_92, nq92_1_0, nq92_2_0, nq92_2_1, o92_0, o92_4, o92_5, o92_3, o92_10⟩
theorem ef_dr40 (m : MethodId) (x0 : Addr) (x1 : Int64) : entryFrame m #[(.ref x0), (.long x1)] 4 = mkF m 0 #[.val (.ref x0), .val (.long x1), .second, .unset] [] := by first | (simp [entryFrame, mkF, argsToLocals, Value.category]; done) | rfl
abbrev R_dr40 : Room := { frames := 3, cells := 3, slots := 24, locals := 56 }
def Qdr40 (Z : State) (a1 : Addr) (q2 : Int64) (aB : Addr) (aP : Addr) (aM : Addr) (kB : ClassId) (kP : ClassId) (kM : ClassId) (b0 : Int64) (b1 : Int64) (b2 : Int64) (b3 : Int64) (b4 : Int64) (b5 : Int64) (b6 : Int64) (b7 : Int64) (x0 : Int64) (x1 : Int64) (x2 : Int64) (x3 : Int64) (x4 : Int64) (x5 : Int64) (x6 : Int64) (x7 : Int64) (h0 : Heap) (n0 : Nat) (v : Option Value) (h : Heap) (L : List Loc) : Prop := ∃ (n1 : Addr) (kn1 : ClassId) (n2 : Addr) (kn2 : ClassId) (n3 : Addr) (kn3 : ClassId), v = none ∧ Fr n0 L ∧ Keep h0 h [a1, aB, aP, aM] ∧ n0 ≤ n1 ∧ n0 ≤ n2 ∧ n0 ≤ n3 ∧ h0.size ≤ n1 ∧ h0.size ≤ n2 ∧ h0.size ≤ n3 ∧ n2 ≠ n1 ∧ n3 ≠ n1 ∧ n3 ≠ n2 ∧ Exa Z h a1 KC ∧ Fld Z h a1 KC "count" "I" (.int 4) ∧ Fld Z h a1 KC "first" "J" (.long 0) ∧ Fld Z h a1 KC KM "[J" (.ref n3) ∧ Arv Z h n3 kn3 .long (8 : Int32) [(.long x0), (.long x1), (.long x2), (.long x3), (.long x4), (.long x5), (.long x6), (.long x7)] (.long 0)
set_option maxRecDepth 65536 in
set_option maxHeartbeats 40000000 in
theorem rmdr40 (l : Launch) (Z : State) (a0 : Array Value) (hw : ∀ d ∈ tables_1, d.before a0 Z = true) (ws : List Jvm.Cond) (a1 : Addr) (q2 : Int64) (aB : Addr) (aP : Addr) (aM : Addr) (kB : ClassId) (kP : ClassId) (kM : ClassId) (b0 : Int64) (b1 : Int64) (b2 : Int64) (b3 : Int64) (b4 : Int64) (b5 : Int64) (b6 : Int64) (b7 : Int64) (x0 : Int64) (x1 : Int64) (x2 : Int64) (x3 : Int64) (x4 : Int64) (x5 : Int64) (x6 : Int64) (x7 : Int64) (h0 : Heap) (n0 : Nat) (Z0 : n0 ≤ h0.size) (E_a1 : Exa Z h0 a1 KC) (F_baseOffsets_a1 : Fld Z h0 a1 KC KB "[J" (.ref aB)) (F_positions_a1 : Fld Z h0 a1 KC KP "[J" (.ref aP)) (F_maxTimestampsSoFar_a1 : Fld Z h0 a1 KC KM "[J" (.ref aM)) (F_count_a1 : Fld Z h0 a1 KC "count" "I" (.int 4)) (F_first_a1 : Fld Z h0 a1 KC "first" "J" (.long 0)) (V_aB : Arv Z h0 aB kB .long (8 : Int32) [(.long b0), (.long b1), (.long b2), (.long b3), (.long b4), (.long b5), (.long b6), (.long b7)] (.long 0)) (V_aP : Arv Z h0 aP kP .long (8 : Int32) [(.long 10), (.long 20), (.long 30), (.long 40), (.long 0), (.long 0), (.long 0), (.long 0)] (.long 0)) (V_aM : Arv Z h0 aM kM .long (8 : Int32) [(.long x0), (.long x1), (.long x2), (.long x3), (.long x4), (.long x5), (.long x6), (.long x7)] (.long 0)) (E_aB : Exa Z h0 aB "[J") (E_aP : Exa Z h0 aP "[J") (E_aM : Exa Z h0 aM "[J") (g_a1 : n0 ≤ a1) (g_aB : n0 ≤ aB) (g_aP : n0 ≤ aP) (g_aM : n0 ≤ aM) (ne_a1_aB : a1 ≠ aB) (ne_a1_aP : a1 ≠ aP) (ne_a1_aM : a1 ≠ aM) (ne_aB_aP : aB ≠ aP) (ne_aB_aM : aB ≠ aM) (ne_aP_aM : aP ≠ aM) (hk : (fla_4 (q2 - (1 : Int64))) = (-1 : Int32)) :
    MetFree l (⟨KC, "dropBefore", "(J)V"⟩ : MethodName) (head1 (Jvm.Cond.code (⟨KC, "dropBefore", "(J)V"⟩ : MethodName) prog_126_method_11_code 4 none :: ws) R_dr40) (fun a U => a = #[(.ref a1), (.long q2)] ∧ Z.Warmed39 U.vm ∧ U.heap = h0) (fun _ _ _ _ _ => True) (fun _ U o U' => ∃ v L, o = .returned v ∧ Qdr40 Z a1 q2 aB aP aM kB kP kM b0 b1 b2 b3 b4 b5 b6 b7 x0 x1 x2 x3 x4 x5 x6 x7 h0 n0 v U'.heap L ∧ FrameEnd U o U' L R_dr40.cells R_dr40.slots) := by
  refine MetFree.of_bodySF (plainFor_of_name pn_55) hisR ?_
  intro p e s m args below meth c s₁ Bd hml0 hP hK
  obtain ⟨rfl, hZ, hh⟩ := hP
  have hx := Bd.exec
  have hby := Bd.bytes
  have hml : c.maxLocals = 4 := hml0
  have hown : s.vm.findClass KC = some m.cls := findClass_of_methodNamed Bd.named
  have hnm := (name_of_methodNamed Bd.named Bd.method).1
  have X0 : Stand p l e R_dr40 s m #[(.ref a1), (.long q2)] below meth c s₁ [] 0 0 := Stand.of_body Bd
  have e0 : s₁.heap = h0 := by rw [← hh, Bd.state]; rfl
  have N0 := Fr.nil n0
  have pre0 : ∀ t, Steps p.tables e below (s₁.setTop (mkF m 0 #[uR a1, uL q2, uS, uU] [])) t → Steps p.tables e below (s₁.setTop (entryFrame m #[(.ref a1), (.long q2)] 4)) t := fun t k => castTop (ef_dr40 m a1 q2) k
  obtain ⟨T1, X1, e1, st1⟩ := getF X0 hx hZ hown (host := "") (Or.inl (own_w hw (i := 13) rfl)) Via.refl e0 F_positions_a1 (g := (mkF m 2 #[uR a1, uL q2, uS, uU] [(.ref a1), (.ref a1)])) rfl rfl (hb hby d3_2)
  -- pc 8: BatchIndex.lastAtOrBefore by rmla_4
  obtain ⟨cq2, qc2, qc2'⟩ := E_a1.cell
  obtain ⟨_, _, ⟨T2, L2, ck2, cn2⟩, -, X2, ⟨Lc2, hQ2, l2, y2, z2⟩, st2⟩ := X1.privateBack hx (y := (⟨KC, "lastAtOrBefore", "([JJ)I"⟩ : MethodName)) hown (mvT hZ (own_w hw (i := 23) rfl)) (mvT hZ (own_w hw (i := 24) rfl)) (own_sel (y := (⟨KC, "lastAtOrBefore", "([JJ)I"⟩ : MethodName)) (mvT hZ (own_w hw (i := 1) rfl)) (Cond.privateMethod_at (mvP hZ (own_w hw (i := 25) rfl) (args := #[]))) (mvT hZ (own_w hw (i := 24) rfl)) (by decide)) (Cond.privateMethod_at (mvP hZ (own_w hw (i := 25) rfl) (args := #[]))) (mvT hZ (own_w hw (i := 26) rfl)) (by decide) (backOf (W := 0) (rmla_4 l Z a0 hw [] a1 aP (q2 - (1 : Int64)) kP (-1 : Int32) h0 n0 Z0 F_count_a1 V_aP hk) hZ (own_w hw (i := 26) rfl) (own_w hw (i := 2) rfl) (by decide) (by decide)) (g := (mkF m 8 #[uR a1, uL q2, uS, uU] [(.long (q2 - (1 : Int64))), (.ref aP), (.ref a1)])) rfl (by rw [hml]; rfl) (Steps.refl _) (a := a1) (by rw [e1]; exact qc2) qc2' (argsL := [(.ref aP), (.long (q2 - (1 : Int64)))]) (rest := []) (lenOf pd_239 rfl) rfl (by show 2 * 0 + _ ≤ _; exact Nat.le_of_eq rfl) (hb hby d3_8) (fun _ _ => ⟨rfl, e1, (by decide : 0 + 0 ≤ _), (by decide : 0 + 0 ≤ _)⟩)
  dsimp only [Pt.U, Pt.locs, Pt.cells, Pt.slots] at X2 l2 y2 z2 st2 hQ2
  subst y2 z2
  obtain ⟨rfl, N2q, e2⟩ := hQ2
  have N3 : Fr n0 L2 := by rw [l2]; exact Fr.app N0 N2q
  obtain ⟨T4, X4, e4, st4⟩ := getF X2 hx hZ hown (host := "") (Or.inl (own_w hw (i := 27) rfl)) Via.refl e2 F_count_a1 (g := (mkF m 16 #[uR a1, uL q2, uS, uI 0] [(.ref a1), (.ref a1)])) rfl rfl (hb hby d3_16)
  obtain ⟨T5, h5, X5, e5, W5, st5⟩ := putF X4 hx hZ hown (host := "") (Or.inl (own_w hw (i := 27) rfl)) Via.refl e4 F_count_a1 E_a1 (Or.inl (own_w hw (i := 28) rfl)) (own_w hw (i := 1) rfl) (ty := .int) (by decide) rfl rfl (g := (mkF m 21 #[uR a1, uL q2, uS, uI 0] [(.int 4), (.ref a1)])) rfl rfl (hb hby d3_21)
  have f6 := E_a1.wr W5
  have f7 := F_baseOffsets_a1.other W5 (Or.inr (sn_143 hw))
  have f8 := F_positions_a1.other W5 (Or.inr (sn_144 hw))
  have f9 := F_maxTimestampsSoFar_a1.other W5 (Or.inr (sn_145 hw))
  have f10 := F_count_a1.same W5
  have f11 := F_first_a1.other W5 (Or.inr (sn_146 hw))
  have f12 := V_aB.other W5 (Ne.symm ne_a1_aB)
  have f13 := V_aP.other W5 (Ne.symm ne_a1_aP)
  have f14 := V_aM.other W5 (Ne.symm ne_a1_aM)
  have f15 := E_aB.wr W5
  have f16 := E_aP.wr W5
  have f17 := E_aM.wr W5
  have K18 := (Keep.refl h0 [a1, aB, aP, aM]).wr W5 (Or.inl (List.mem_of_getElem? (i := 0) rfl))
  have zs19 : n0 ≤ h5.size := Nat.le_trans Z0 (Keep.of_wr W5).1
  have N20 := Fr.snoc X5 N3 g_a1
  obtain ⟨T21, X21, e21, st21⟩ := getF X5 hx hZ hown (host := "") (Or.inl (own_w hw (i := 39) rfl)) Via.refl e5 f11 (g := (mkF m 26 #[uR a1, uL q2, uS, uI 0] [(.ref a1), (.ref a1)])) rfl rfl (hb hby d3_26)
  obtain ⟨T22, h22, X22, e22, W22, st22⟩ := putF X21 hx hZ hown (host := "") (Or.inl (own_w hw (i := 39) rfl)) Via.refl e21 f11 f6 (Or.inl (own_w hw (i := 40) rfl)) (own_w hw (i := 1) rfl) (ty := .long) (by decide) rfl rfl (g := (mkF m 32 #[uR a1, uL q2, uS, uI 0] [(.long 0), (.ref a1)])) rfl rfl (hb hby d3_32)
  have f23 := f6.wr W22
  have f24 := f7.other W22 (Or.inr (sn_256 hw))
  have f25 := f8.other W22 (Or.inr (sn_257 hw))
  have f26 := f9.other W22 (Or.inr (sn_258 hw))
  have f27 := f10.other W22 (Or.inr (sn_259 hw))
  have f28 := f11.same W22
  have f29 := f12.other W22 (Ne.symm ne_a1_aB)
  have f30 := f13.other W22 (Ne.symm ne_a1_aP)
  have f31 := f14.other W22 (Ne.symm ne_a1_aM)
  have f32 := f15.wr W22
  have f33 := f16.wr W22
  have f34 := f17.wr W22
  have K35 := K18.wr W22 (Or.inl (List.mem_of_getElem? (i := 0) rfl))
  have zs36 : n0 ≤ h22.size := Nat.le_trans zs19 (Keep.of_wr W22).1
  have N37 := Fr.snoc X22 N20 g_a1
  obtain ⟨T38, X38, e38, st38⟩ := getF X22 hx hZ hown (host := "") (Or.inl (own_w hw (i := 11) rfl)) Via.refl e22 f24 (g := (mkF m 36 #[uR a1, uL q2, uS, uI 0] [(.ref a1)])) rfl rfl (hb hby d3_36)
  obtain ⟨T39, X39, e39, st39⟩ := getF X38 hx hZ hown (host := "") (Or.inl (own_w hw (i := 11) rfl)) Via.refl e38 f24 (g := (mkF m 41 #[uR a1, uL q2, uS, uI 0] [(.ref a1), (.int 0), (.ref aB)])) rfl rfl (hb hby d3_41)
  obtain ⟨T40, X40, e40, st40⟩ := getF X39 hx hZ hown (host := "") (Or.inl (own_w hw (i := 27) rfl)) Via.refl e39 f27 (g := (mkF m 46 #[uR a1, uL q2, uS, uI 0] [(.ref a1), (.int 0), (.ref aB), (.int 0), (.ref aB)])) rfl rfl (hb hby d3_46)
  obtain ⟨T41, h41, L41, X41, e41, N41, Kc41, V41, st41⟩ := cpA X40 hx hZ hown (own_w hw (i := 41) rfl) (own_w hw (i := 44) rfl) (own_w hw (i := 42) rfl) (own_w hw (i := 43) rfl) e40 f29 f29 (sp := (0 : Int32)) (dp := (0 : Int32)) (nn := (4 : Int32)) (us := [(.long b0), (.long b1), (.long b2), (.long b3)]) (Or.inl ⟨rfl, rfl⟩) (by decide) (by decide) (by decide) (by decide) (by decide) rfl (Nat.le_of_ble_eq_true rfl) N37 g_aB (g := (mkF m 49 #[uR a1, uL q2, uS, uI 0] [(.int 4), (.int 0), (.ref aB), (.int 0), (.ref aB)])) rfl (by rw [hml]; rfl) rfl (hb hby d3_49) (by decide) (W := 0) (by show 2 * 0 + _ ≤ _; exact Nat.le_of_eq rfl) (by decide)
  have Kd41 : Keep h22 h41 [aB] := Kc41
  have f42 := f23.keep Kd41
  have f43 := f24.keep Kd41 (ninS ne_a1_aB nin0)
  have f44 := f25.keep Kd41 (ninS ne_a1_aB nin0)
  have f45 := f26.keep Kd41 (ninS ne_a1_aB nin0)
  have f46 := f27.keep Kd41 (ninS ne_a1_aB nin0)
  have f47 := f28.keep Kd41 (ninS ne_a1_aB nin0)
  have f48 := f30.keep Kd41 (ninS (Ne.symm ne_aB_aP) nin0)
  have f49 := f31.keep Kd41 (ninS (Ne.symm ne_aB_aM) nin0)
  have f50 := f32.keep Kd41
  have f51 := f33.keep Kd41
  have f52 := f34.keep Kd41
  have zs53 : n0 ≤ h41.size := Nat.le_trans zs36 Kd41.1
  have K54 := K35.trans Kd41 (allS (Or.inl (List.mem_of_getElem? (i := 1) rfl)) all0)
  have Vx41 : Arv Z h41 aB kB .long (8 : Int32) [(.long b0), (.long b1), (.long b2), (.long b3), (.long b4), (.long b5), (.long b6), (.long b7)] (.long 0) := V41
  obtain ⟨T55, X55, e55, st55⟩ := getF X41 hx hZ hown (host := "") (Or.inl (own_w hw (i := 13) rfl)) Via.refl e41 f44 (g := (mkF m 53 #[uR a1, uL q2, uS, uI 0] [(.ref a1)])) rfl rfl (hb hby d3_53)
  obtain ⟨T56, X56, e56, st56⟩ := getF X55 hx hZ hown (host := "") (Or.inl (own_w hw (i := 13) rfl)) Via.refl e55 f44 (g := (mkF m 58 #[uR a1, uL q2, uS, uI 0] [(.ref a1), (.int 0), (.ref aP)])) rfl rfl (hb hby d3_58)
  obtain ⟨T57, X57, e57, st57⟩ := getF X56 hx hZ hown (host := "") (Or.inl (own_w hw (i := 27) rfl)) Via.refl e56 f46 (g := (mkF m 63 #[uR a1, uL q2, uS, uI 0] [(.ref a1), (.int 0), (.ref aP), (.int 0), (.ref aP)])) rfl rfl (hb hby d3_63)
  obtain ⟨T58, h58, L58, X58, e58, N58, Kc58, V58, st58⟩ := cpA X57 hx hZ hown (own_w hw (i := 41) rfl) (own_w hw (i := 44) rfl) (own_w hw (i := 42) rfl) (own_w hw (i := 43) rfl) e57 f48 f48 (sp := (0 : Int32)) (dp := (0 : Int32)) (nn := (4 : Int32)) (us := [(.long 10), (.long 20), (.long 30), (.long 40)]) (Or.inl ⟨rfl, rfl⟩) (by decide) (by decide) (by decide) (by decide) (by decide) rfl (Nat.le_of_ble_eq_true rfl) N41 g_aP (g := (mkF m 66 #[uR a1, uL q2, uS, uI 0] [(.int 4), (.int 0), (.ref aP), (.int 0), (.ref aP)])) rfl (by rw [hml]; rfl) rfl (hb hby d3_66) (by decide) (W := 0) (by show 2 * 0 + _ ≤ _; exact Nat.le_of_eq rfl) (by decide)
  have Kd58 : Keep h41 h58 [aP] := Kc58
  have f59 := f42.keep Kd58
  have f60 := f43.keep Kd58 (ninS ne_a1_aP nin0)
  have f61 := f44.keep Kd58 (ninS ne_a1_aP nin0)
  have f62 := f45.keep Kd58 (ninS ne_a1_aP nin0)
  have f63 := f46.keep Kd58 (ninS ne_a1_aP nin0)
  have f64 := f47.keep Kd58 (ninS ne_a1_aP nin0)
  have f65 := f49.keep Kd58 (ninS (Ne.symm ne_aP_aM) nin0)
  have f66 := f50.keep Kd58
  have f67 := f51.keep Kd58
  have f68 := f52.keep Kd58
  have f69 := Vx41.keep Kd58 (ninS ne_aB_aP nin0)
  have zs70 : n0 ≤ h58.size := Nat.le_trans zs53 Kd58.1
  have K71 := K54.trans Kd58 (allS (Or.inl (List.mem_of_getElem? (i := 2) rfl)) all0)
  have Vx58 : Arv Z h58 aP kP .long (8 : Int32) [(.long 10), (.long 20), (.long 30), (.long 40), (.long 0), (.long 0), (.long 0), (.long 0)] (.long 0) := V58
  obtain ⟨T72, X72, e72, st72⟩ := getF X58 hx hZ hown (host := "") (Or.inl (own_w hw (i := 15) rfl)) Via.refl e58 f62 (g := (mkF m 70 #[uR a1, uL q2, uS, uI 0] [(.ref a1)])) rfl rfl (hb hby d3_70)
  obtain ⟨T73, X73, e73, st73⟩ := getF X72 hx hZ hown (host := "") (Or.inl (own_w hw (i := 15) rfl)) Via.refl e72 f62 (g := (mkF m 75 #[uR a1, uL q2, uS, uI 0] [(.ref a1), (.int 0), (.ref aM)])) rfl rfl (hb hby d3_75)
  obtain ⟨T74, X74, e74, st74⟩ := getF X73 hx hZ hown (host := "") (Or.inl (own_w hw (i := 27) rfl)) Via.refl e73 f63 (g := (mkF m 80 #[uR a1, uL q2, uS, uI 0] [(.ref a1), (.int 0), (.ref aM), (.int 0), (.ref aM)])) rfl rfl (hb hby d3_80)
  obtain ⟨T75, h75, L75, X75, e75, N75, Kc75, V75, st75⟩ := cpA X74 hx hZ hown (own_w hw (i := 41) rfl) (own_w hw (i := 44) rfl) (own_w hw (i := 42) rfl) (own_w hw (i := 43) rfl) e74 f65 f65 (sp := (0 : Int32)) (dp := (0 : Int32)) (nn := (4 : Int32)) (us := [(.long x0), (.long x1), (.long x2), (.long x3)]) (Or.inl ⟨rfl, rfl⟩) (by decide) (by decide) (by decide) (by decide) (by decide) rfl (Nat.le_of_ble_eq_true rfl) N58 g_aM (g := (mkF m 83 #[uR a1, uL q2, uS, uI 0] [(.int 4), (.int 0), (.ref aM), (.int 0), (.ref aM)])) rfl (by rw [hml]; rfl) rfl (hb hby d3_83) (by decide) (W := 0) (by show 2 * 0 + _ ≤ _; exact Nat.le_of_eq rfl) (by decide)
  have Kd75 : Keep h58 h75 [aM] := Kc75
  have f76 := f59.keep Kd75
  have f77 := f60.keep Kd75 (ninS ne_a1_aM nin0)
  have f78 := f61.keep Kd75 (ninS ne_a1_aM nin0)
  have f79 := f62.keep Kd75 (ninS ne_a1_aM nin0)
  have f80 := f63.keep Kd75 (ninS ne_a1_aM nin0)
  have f81 := f64.keep Kd75 (ninS ne_a1_aM nin0)
  have f82 := f66.keep Kd75
  have f83 := f67.keep Kd75
  have f84 := f68.keep Kd75
  have f85 := f69.keep Kd75 (ninS ne_aB_aM nin0)
  have f86 := Vx58.keep Kd75 (ninS ne_aP_aM nin0)
  have zs87 : n0 ≤ h75.size := Nat.le_trans zs70 Kd75.1
  have K88 := K71.trans Kd75 (allS (Or.inl (List.mem_of_getElem? (i := 3) rfl)) all0)
  have Vx75 : Arv Z h75 aM kM .long (8 : Int32) [(.long x0), (.long x1), (.long x2), (.long x3), (.long x4), (.long x5), (.long x6), (.long x7)] (.long 0) := V75
  obtain ⟨T89, X89, e89, st89⟩ := getF X75 hx hZ hown (host := "") (Or.inl (own_w hw (i := 27) rfl)) Via.refl e75 f80 (g := (mkF m 88 #[uR a1, uL q2, uS, uI 0] [(.ref a1), (.ref a1)])) rfl rfl (hb hby d3_88)
  -- pc 95: Math.max by rmmx1
  obtain ⟨_, _, ⟨T90, L90, ck90, cn90⟩, -, X90, ⟨Lc90, hQ90, l90, y90, z90⟩, st90⟩ := Jvm.LawKit.callS X89 hx (y := (⟨"java/lang/Math", "max", "(II)I"⟩ : MethodName)) hown (mvT hZ (own_w hw (i := 45) rfl)) (mvT hZ (own_w hw (i := 46) rfl)) (mvT hZ (own_w hw (i := 47) rfl)) (mvT hZ (own_w hw (i := 48) rfl)) (by decide) (backOf (W := 1) (rmmx1 l Z a0 hw [] (8 : Int32) (8 : Int32) h75 n0 zs87 (by decide)) hZ (own_w hw (i := 48) rfl) (own_w hw (i := 47) rfl) (by decide) (by decide)) (g := (mkF m 95 #[uR a1, uL q2, uS, uI 0] [(.int 8), (.int 8), (.ref a1)])) rfl (by rw [hml]; rfl) (argsL := [(.int 8), (.int 8)]) (rest := [(.ref a1)]) (lenOf pd_47 rfl) rfl (by show 2 * 0 + _ ≤ _; exact Nat.le_of_eq rfl) (hb hby d3_95) (fun _ _ => ⟨rfl, e89, (by decide : 0 + 0 ≤ _), (by decide : 0 + 0 ≤ _)⟩)
  dsimp only [Pt.U, Pt.locs, Pt.cells, Pt.slots] at X90 l90 y90 z90 st90 hQ90
  subst y90 z90
  obtain ⟨rfl, N90q, e90⟩ := hQ90
  have N91 : Fr n0 L90 := by rw [l90]; exact Fr.app N75 N90q
  -- pc 98: BatchIndex.resize by rmrz8
  obtain ⟨cq92, qc92, qc92'⟩ := f76.cell
  obtain ⟨_, _, ⟨T92, L92, ck92, cn92⟩, -, X92, ⟨Lc92, hQ92, l92, y92, z92⟩, st92⟩ := X90.privateBack hx (y := (⟨KC, "resize", "(I)V"⟩ : MethodName)) hown (mvT hZ (own_w hw (i := 49) rfl)) (mvT hZ (own_w hw (i := 50) rfl)) (own_sel (y := (⟨KC, "resize", "(I)V"⟩ : MethodName)) (mvT hZ (own_w hw (i := 1) rfl)) (Cond.privateMethod_at (mvP hZ (own_w hw (i := 51) rfl) (args := #[]))) (mvT hZ (own_w hw (i := 50) rfl)) (by decide)) (Cond.privateMethod_at (mvP hZ (own_w hw (i := 51) rfl) (args := #[]))) (mvT hZ (own_w hw (i := 52) rfl)) (by decide) (backOf (W := 0) (rmrz8 l Z a0 hw [] a1 aB aP aM kB kP kM (4 : Int32) (0 : Int64) b0 b1 b2 b3 b4 b5 b6 b7 (10 : Int64) (20 : Int64) (30 : Int64) (40 : Int64) (0 : Int64) (0 : Int64) (0 : Int64) (0 : Int64) x0 x1 x2 x3 x4 x5 x6 x7 h75 n0 zs87 f76 f80 f81 f77 f78 f79 f85 f86 Vx75 f82 f83 f84 g_a1 ne_a1_aB ne_a1_aP ne_a1_aM ne_aB_aP ne_aB_aM ne_aP_aM) hZ (own_w hw (i := 52) rfl) (own_w hw (i := 2) rfl) (by decide) (by decide)) (g := (mkF m 98 #[uR a1, uL q2, uS, uI 0] [(.int 8), (.ref a1)])) rfl (by rw [hml]; rfl) (Steps.refl _) (a := a1) (by rw [e90]; exact qc92) qc92' (argsL := [(.int 8)]) (rest := []) (lenOf pd_114 rfl) rfl (by show 2 * 0 + _ ≤ _; exact Nat.le_of_eq rfl) (hb hby d3_98) (fun _ _ => ⟨rfl, e90, (by decide : 0 + 3 ≤ _), (by decide : 0 + 24 ≤ _)⟩)
  dsimp only [Pt.U, Pt.locs, Pt.cells, Pt.slots] at X92 l92 y92 z92 st92 hQ92
  subst y92 z92
  obtain ⟨n1_92, kn1_92, n2_92, kn2_92, n3_92, kn3_92, rfl, N92q, K92q, gq92_0, gq92_1, gq92_2, sq92_0, sq92_1, sq92_2, nq92_1_0, nq92_2_0, nq92_2_1, o92_0, o92_1, o92_2, o92_3, o92_4, o92_5, o92_6, o92_7, o92_8, o92_9, o92_10, o92_11⟩ := hQ92
  have N93 : Fr n0 L92 := by rw [l92]; exact Fr.app N91 N92q
  have sz_n1_92 : h0.size ≤ n1_92 := Nat.le_trans K88.1 sq92_0
  have sz_n2_92 : h0.size ≤ n2_92 := Nat.le_trans K88.1 sq92_1
  have sz_n3_92 : h0.size ≤ n3_92 := Nat.le_trans K88.1 sq92_2
  have K119 := K88.trans K92q (allS (Or.inl (List.mem_of_getElem? (i := 0) rfl)) all0)
  obtain ⟨fs, hr, hrun, hended, hW, hsame⟩ := X92.leave (v := none) (fun _ => rfl) Bd.notSynchronized
  refine ⟨_, _, pre0 _ ?_, hrun, hended, _, _, rfl, ?_, ⟨_, rfl⟩, hW, hsame.mono (by decide) (by decide)⟩
  · show Steps p.tables e below (s₁.setTop (mkF m 0 #[uR a1, uL q2, uS, uU] [])) _
    refine XS.aloadN X0.here hx rfl (hb hby d3_0) rfl rfl ?_
    refine XS.aloadN X0.here hx rfl (hb hby d3_1) rfl rfl ?_
    refine st1 _ ?_
    refine XS.lloadN X1.here hx rfl (hb hby d3_5) rfl ?_
    refine XS.lconst X1.here hx rfl (hb hby d3_6) ?_
    refine XS.lsub X1.here hx rfl (hb hby d3_7) rfl ?_
    refine st2.trans ?_
    refine XS.iconst X2.here hx rfl (hb hby d3_11) ?_
    refine XS.iadd X2.here hx rfl (hb hby d3_12) rfl ?_
    refine XS.istoreN X2.here hx rfl (hb hby d3_13) rfl (l' := #[uR a1, uL q2, uS, uI 0]) rfl ?_
    refine XS.aloadN X2.here hx rfl (hb hby d3_14) rfl rfl ?_
    refine XS.dup X2.here hx rfl (hb hby d3_15) rfl rfl ?_
    refine st4 _ ?_
    refine XS.iloadN X4.here hx rfl (hb hby d3_19) rfl ?_
    refine XS.isub X4.here hx rfl (hb hby d3_20) rfl ?_
    refine st5 _ ?_
    show Steps p.tables e below (T5.setTop (mkF m 24 #[uR a1, uL q2, uS, uI 0] [])) _
    refine XS.aloadN X5.here hx rfl (hb hby d3_24) rfl rfl ?_
    refine XS.dup X5.here hx rfl (hb hby d3_25) rfl rfl ?_
    refine st21 _ ?_
    refine XS.iloadN X21.here hx rfl (hb hby d3_29) rfl ?_
    refine XS.i2l X21.here hx rfl (hb hby d3_30) rfl ?_
    refine XS.ladd X21.here hx rfl (hb hby d3_31) rfl ?_
    refine st22 _ ?_
    refine XS.aloadN X22.here hx rfl (hb hby d3_35) rfl rfl ?_
    refine st38 _ ?_
    refine XS.iloadN X38.here hx rfl (hb hby d3_39) rfl ?_
    refine XS.aloadN X38.here hx rfl (hb hby d3_40) rfl rfl ?_
    refine st39 _ ?_
    refine XS.iconst X39.here hx rfl (hb hby d3_44) ?_
    refine XS.aloadN X39.here hx rfl (hb hby d3_45) rfl rfl ?_
    refine st40 _ ?_
    refine st41 _ ?_
    show Steps p.tables e below (T41.setTop (mkF m 52 #[uR a1, uL q2, uS, uI 0] [])) _
    refine XS.aloadN X41.here hx rfl (hb hby d3_52) rfl rfl ?_
    refine st55 _ ?_
    refine XS.iloadN X55.here hx rfl (hb hby d3_56) rfl ?_
    refine XS.aloadN X55.here hx rfl (hb hby d3_57) rfl rfl ?_
    refine st56 _ ?_
    refine XS.iconst X56.here hx rfl (hb hby d3_61) ?_
    refine XS.aloadN X56.here hx rfl (hb hby d3_62) rfl rfl ?_
    refine st57 _ ?_
    refine st58 _ ?_
    refine XS.aloadN X58.here hx rfl (hb hby d3_69) rfl rfl ?_
    refine st72 _ ?_
    refine XS.iloadN X72.here hx rfl (hb hby d3_73) rfl ?_
    refine XS.aloadN X72.here hx rfl (hb hby d3_74) rfl rfl ?_
    refine st73 _ ?_
    refine XS.iconst X73.here hx rfl (hb hby d3_78) ?_
    refine XS.aloadN X73.here hx rfl (hb hby d3_79) rfl rfl ?_
    show Steps p.tables e below (T73.setTop (mkF m 80 #[uR a1, uL q2, uS, uI 0] [(.ref a1), (.int 0), (.ref aM), (.int 0), (.ref aM)])) _
    refine st74 _ ?_
    refine st75 _ ?_
    refine XS.aloadN X75.here hx rfl (hb hby d3_86) rfl rfl ?_
    refine XS.aloadN X75.here hx rfl (hb hby d3_87) rfl rfl ?_
    refine st89 _ ?_
    refine XS.iconst X89.here hx rfl (hb hby d3_91) ?_
    refine XS.imul X89.here hx rfl (hb hby d3_92) rfl ?_
    refine XS.bipush X89.here hx rfl (hb hby d3_93) ?_
    refine st90 _ ?_
    refine st92.trans ?_
    exact X92.returnOut hx Bd.returns (hb hby d3_101) hr
  · show Qdr40 Z a1 q2 aB aP aM kB kP kM b0 b1 b2 b3 b4 b5 b6 b7 x0 x1 x2 x3 x4 x5 x6 x7 h0 n0 _ T92.heap _
    exact ⟨n1_92, kn1_92, n2_92, kn2_92, n3_92, kn3_92, rfl, N93, K119, gq92_0, gq92_1, gq92_2, sz_n1_92, sz_n2_92, sz_n3_92, nq92_1_0, nq92_2_0, nq92_2_1, o92_0, o92_4, o92_5, o92_3, o92_10⟩
theorem ef_dr41 (m : MethodId) (x0 : Addr) (x1 : Int64) : entryFrame m #[(.ref x0), (.long x1)] 4 = mkF m 0 #[.val (.ref x0), .val (.long x1), .second, .unset] [] := by first | (simp [entryFrame, mkF, argsToLocals, Value.category]; done) | rfl
abbrev R_dr41 : Room := { frames := 3, cells := 3, slots := 24, locals := 56 }
def Qdr41 (Z : State) (a1 : Addr) (q2 : Int64) (aB : Addr) (aP : Addr) (aM : Addr) (kB : ClassId) (kP : ClassId) (kM : ClassId) (b0 : Int64) (b1 : Int64) (b2 : Int64) (b3 : Int64) (b4 : Int64) (b5 : Int64) (b6 : Int64) (b7 : Int64) (x0 : Int64) (x1 : Int64) (x2 : Int64) (x3 : Int64) (x4 : Int64) (x5 : Int64) (x6 : Int64) (x7 : Int64) (h0 : Heap) (n0 : Nat) (v : Option Value) (h : Heap) (L : List Loc) : Prop := ∃ (n1 : Addr) (kn1 : ClassId) (n2 : Addr) (kn2 : ClassId) (n3 : Addr) (kn3 : ClassId), v = none ∧ Fr n0 L ∧ Keep h0 h [a1, aB, aP, aM] ∧ n0 ≤ n1 ∧ n0 ≤ n2 ∧ n0 ≤ n3 ∧ h0.size ≤ n1 ∧ h0.size ≤ n2 ∧ h0.size ≤ n3 ∧ n2 ≠ n1 ∧ n3 ≠ n1 ∧ n3 ≠ n2 ∧ Exa Z h a1 KC ∧ Fld Z h a1 KC "count" "I" (.int 3) ∧ Fld Z h a1 KC "first" "J" (.long 1) ∧ Fld Z h a1 KC KM "[J" (.ref n3) ∧ Arv Z h n3 kn3 .long (8 : Int32) [(.long x1), (.long x2), (.long x3), (.long x3), (.long x4), (.long x5), (.long x6), (.long x7)] (.long 0)
set_option maxRecDepth 65536 in
set_option maxHeartbeats 40000000 in
theorem rmdr41 (l : Launch) (Z : State) (a0 : Array Value) (hw : ∀ d ∈ tables_1, d.before a0 Z = true) (ws : List Jvm.Cond) (a1 : Addr) (q2 : Int64) (aB : Addr) (aP : Addr) (aM : Addr) (kB : ClassId) (kP : ClassId) (kM : ClassId) (b0 : Int64) (b1 : Int64) (b2 : Int64) (b3 : Int64) (b4 : Int64) (b5 : Int64) (b6 : Int64) (b7 : Int64) (x0 : Int64) (x1 : Int64) (x2 : Int64) (x3 : Int64) (x4 : Int64) (x5 : Int64) (x6 : Int64) (x7 : Int64) (h0 : Heap) (n0 : Nat) (Z0 : n0 ≤ h0.size) (E_a1 : Exa Z h0 a1 KC) (F_baseOffsets_a1 : Fld Z h0 a1 KC KB "[J" (.ref aB)) (F_positions_a1 : Fld Z h0 a1 KC KP "[J" (.ref aP)) (F_maxTimestampsSoFar_a1 : Fld Z h0 a1 KC KM "[J" (.ref aM)) (F_count_a1 : Fld Z h0 a1 KC "count" "I" (.int 4)) (F_first_a1 : Fld Z h0 a1 KC "first" "J" (.long 0)) (V_aB : Arv Z h0 aB kB .long (8 : Int32) [(.long b0), (.long b1), (.long b2), (.long b3), (.long b4), (.long b5), (.long b6), (.long b7)] (.long 0)) (V_aP : Arv Z h0 aP kP .long (8 : Int32) [(.long 10), (.long 20), (.long 30), (.long 40), (.long 0), (.long 0), (.long 0), (.long 0)] (.long 0)) (V_aM : Arv Z h0 aM kM .long (8 : Int32) [(.long x0), (.long x1), (.long x2), (.long x3), (.long x4), (.long x5), (.long x6), (.long x7)] (.long 0)) (E_aB : Exa Z h0 aB "[J") (E_aP : Exa Z h0 aP "[J") (E_aM : Exa Z h0 aM "[J") (g_a1 : n0 ≤ a1) (g_aB : n0 ≤ aB) (g_aP : n0 ≤ aP) (g_aM : n0 ≤ aM) (ne_a1_aB : a1 ≠ aB) (ne_a1_aP : a1 ≠ aP) (ne_a1_aM : a1 ≠ aM) (ne_aB_aP : aB ≠ aP) (ne_aB_aM : aB ≠ aM) (ne_aP_aM : aP ≠ aM) (hk : (fla_4 (q2 - (1 : Int64))) = (0 : Int32)) :
    MetFree l (⟨KC, "dropBefore", "(J)V"⟩ : MethodName) (head1 (Jvm.Cond.code (⟨KC, "dropBefore", "(J)V"⟩ : MethodName) prog_126_method_11_code 4 none :: ws) R_dr41) (fun a U => a = #[(.ref a1), (.long q2)] ∧ Z.Warmed39 U.vm ∧ U.heap = h0) (fun _ _ _ _ _ => True) (fun _ U o U' => ∃ v L, o = .returned v ∧ Qdr41 Z a1 q2 aB aP aM kB kP kM b0 b1 b2 b3 b4 b5 b6 b7 x0 x1 x2 x3 x4 x5 x6 x7 h0 n0 v U'.heap L ∧ FrameEnd U o U' L R_dr41.cells R_dr41.slots) := by
  refine MetFree.of_bodySF (plainFor_of_name pn_55) hisR ?_
  intro p e s m args below meth c s₁ Bd hml0 hP hK
  obtain ⟨rfl, hZ, hh⟩ := hP
  have hx := Bd.exec
  have hby := Bd.bytes
  have hml : c.maxLocals = 4 := hml0
  have hown : s.vm.findClass KC = some m.cls := findClass_of_methodNamed Bd.named
  have hnm := (name_of_methodNamed Bd.named Bd.method).1
  have X0 : Stand p l e R_dr41 s m #[(.ref a1), (.long q2)] below meth c s₁ [] 0 0 := Stand.of_body Bd
  have e0 : s₁.heap = h0 := by rw [← hh, Bd.state]; rfl
  have N0 := Fr.nil n0
  have pre0 : ∀ t, Steps p.tables e below (s₁.setTop (mkF m 0 #[uR a1, uL q2, uS, uU] [])) t → Steps p.tables e below (s₁.setTop (entryFrame m #[(.ref a1), (.long q2)] 4)) t := fun t k => castTop (ef_dr41 m a1 q2) k
  obtain ⟨T1, X1, e1, st1⟩ := getF X0 hx hZ hown (host := "") (Or.inl (own_w hw (i := 13) rfl)) Via.refl e0 F_positions_a1 (g := (mkF m 2 #[uR a1, uL q2, uS, uU] [(.ref a1), (.ref a1)])) rfl rfl (hb hby d3_2)
  -- pc 8: BatchIndex.lastAtOrBefore by rmla_4
  obtain ⟨cq2, qc2, qc2'⟩ := E_a1.cell
  obtain ⟨_, _, ⟨T2, L2, ck2, cn2⟩, -, X2, ⟨Lc2, hQ2, l2, y2, z2⟩, st2⟩ := X1.privateBack hx (y := (⟨KC, "lastAtOrBefore", "([JJ)I"⟩ : MethodName)) hown (mvT hZ (own_w hw (i := 23) rfl)) (mvT hZ (own_w hw (i := 24) rfl)) (own_sel (y := (⟨KC, "lastAtOrBefore", "([JJ)I"⟩ : MethodName)) (mvT hZ (own_w hw (i := 1) rfl)) (Cond.privateMethod_at (mvP hZ (own_w hw (i := 25) rfl) (args := #[]))) (mvT hZ (own_w hw (i := 24) rfl)) (by decide)) (Cond.privateMethod_at (mvP hZ (own_w hw (i := 25) rfl) (args := #[]))) (mvT hZ (own_w hw (i := 26) rfl)) (by decide) (backOf (W := 0) (rmla_4 l Z a0 hw [] a1 aP (q2 - (1 : Int64)) kP (0 : Int32) h0 n0 Z0 F_count_a1 V_aP hk) hZ (own_w hw (i := 26) rfl) (own_w hw (i := 2) rfl) (by decide) (by decide)) (g := (mkF m 8 #[uR a1, uL q2, uS, uU] [(.long (q2 - (1 : Int64))), (.ref aP), (.ref a1)])) rfl (by rw [hml]; rfl) (Steps.refl _) (a := a1) (by rw [e1]; exact qc2) qc2' (argsL := [(.ref aP), (.long (q2 - (1 : Int64)))]) (rest := []) (lenOf pd_239 rfl) rfl (by show 2 * 0 + _ ≤ _; exact Nat.le_of_eq rfl) (hb hby d3_8) (fun _ _ => ⟨rfl, e1, (by decide : 0 + 0 ≤ _), (by decide : 0 + 0 ≤ _)⟩)
  dsimp only [Pt.U, Pt.locs, Pt.cells, Pt.slots] at X2 l2 y2 z2 st2 hQ2
  subst y2 z2
  obtain ⟨rfl, N2q, e2⟩ := hQ2
  have N3 : Fr n0 L2 := by rw [l2]; exact Fr.app N0 N2q
  obtain ⟨T4, X4, e4, st4⟩ := getF X2 hx hZ hown (host := "") (Or.inl (own_w hw (i := 27) rfl)) Via.refl e2 F_count_a1 (g := (mkF m 16 #[uR a1, uL q2, uS, uI 1] [(.ref a1), (.ref a1)])) rfl rfl (hb hby d3_16)
  obtain ⟨T5, h5, X5, e5, W5, st5⟩ := putF X4 hx hZ hown (host := "") (Or.inl (own_w hw (i := 27) rfl)) Via.refl e4 F_count_a1 E_a1 (Or.inl (own_w hw (i := 28) rfl)) (own_w hw (i := 1) rfl) (ty := .int) (by decide) rfl rfl (g := (mkF m 21 #[uR a1, uL q2, uS, uI 1] [(.int 3), (.ref a1)])) rfl rfl (hb hby d3_21)
  have f6 := E_a1.wr W5
  have f7 := F_baseOffsets_a1.other W5 (Or.inr (sn_143 hw))
  have f8 := F_positions_a1.other W5 (Or.inr (sn_144 hw))
  have f9 := F_maxTimestampsSoFar_a1.other W5 (Or.inr (sn_145 hw))
  have f10 := F_count_a1.same W5
  have f11 := F_first_a1.other W5 (Or.inr (sn_146 hw))
  have f12 := V_aB.other W5 (Ne.symm ne_a1_aB)
  have f13 := V_aP.other W5 (Ne.symm ne_a1_aP)
  have f14 := V_aM.other W5 (Ne.symm ne_a1_aM)
  have f15 := E_aB.wr W5
  have f16 := E_aP.wr W5
  have f17 := E_aM.wr W5
  have K18 := (Keep.refl h0 [a1, aB, aP, aM]).wr W5 (Or.inl (List.mem_of_getElem? (i := 0) rfl))
  have zs19 : n0 ≤ h5.size := Nat.le_trans Z0 (Keep.of_wr W5).1
  have N20 := Fr.snoc X5 N3 g_a1
  obtain ⟨T21, X21, e21, st21⟩ := getF X5 hx hZ hown (host := "") (Or.inl (own_w hw (i := 39) rfl)) Via.refl e5 f11 (g := (mkF m 26 #[uR a1, uL q2, uS, uI 1] [(.ref a1), (.ref a1)])) rfl rfl (hb hby d3_26)
  obtain ⟨T22, h22, X22, e22, W22, st22⟩ := putF X21 hx hZ hown (host := "") (Or.inl (own_w hw (i := 39) rfl)) Via.refl e21 f11 f6 (Or.inl (own_w hw (i := 40) rfl)) (own_w hw (i := 1) rfl) (ty := .long) (by decide) rfl rfl (g := (mkF m 32 #[uR a1, uL q2, uS, uI 1] [(.long 1), (.ref a1)])) rfl rfl (hb hby d3_32)
  have f23 := f6.wr W22
  have f24 := f7.other W22 (Or.inr (sn_256 hw))
  have f25 := f8.other W22 (Or.inr (sn_257 hw))
  have f26 := f9.other W22 (Or.inr (sn_258 hw))
  have f27 := f10.other W22 (Or.inr (sn_259 hw))
  have f28 := f11.same W22
  have f29 := f12.other W22 (Ne.symm ne_a1_aB)
  have f30 := f13.other W22 (Ne.symm ne_a1_aP)
  have f31 := f14.other W22 (Ne.symm ne_a1_aM)
  have f32 := f15.wr W22
  have f33 := f16.wr W22
  have f34 := f17.wr W22
  have K35 := K18.wr W22 (Or.inl (List.mem_of_getElem? (i := 0) rfl))
  have zs36 : n0 ≤ h22.size := Nat.le_trans zs19 (Keep.of_wr W22).1
  have N37 := Fr.snoc X22 N20 g_a1
  obtain ⟨T38, X38, e38, st38⟩ := getF X22 hx hZ hown (host := "") (Or.inl (own_w hw (i := 11) rfl)) Via.refl e22 f24 (g := (mkF m 36 #[uR a1, uL q2, uS, uI 1] [(.ref a1)])) rfl rfl (hb hby d3_36)
  obtain ⟨T39, X39, e39, st39⟩ := getF X38 hx hZ hown (host := "") (Or.inl (own_w hw (i := 11) rfl)) Via.refl e38 f24 (g := (mkF m 41 #[uR a1, uL q2, uS, uI 1] [(.ref a1), (.int 1), (.ref aB)])) rfl rfl (hb hby d3_41)
  obtain ⟨T40, X40, e40, st40⟩ := getF X39 hx hZ hown (host := "") (Or.inl (own_w hw (i := 27) rfl)) Via.refl e39 f27 (g := (mkF m 46 #[uR a1, uL q2, uS, uI 1] [(.ref a1), (.int 0), (.ref aB), (.int 1), (.ref aB)])) rfl rfl (hb hby d3_46)
  obtain ⟨T41, h41, L41, X41, e41, N41, Kc41, V41, st41⟩ := cpA X40 hx hZ hown (own_w hw (i := 41) rfl) (own_w hw (i := 44) rfl) (own_w hw (i := 42) rfl) (own_w hw (i := 43) rfl) e40 f29 f29 (sp := (1 : Int32)) (dp := (0 : Int32)) (nn := (3 : Int32)) (us := [(.long b1), (.long b2), (.long b3)]) (Or.inl ⟨rfl, rfl⟩) (by decide) (by decide) (by decide) (by decide) (by decide) rfl (Nat.le_of_ble_eq_true rfl) N37 g_aB (g := (mkF m 49 #[uR a1, uL q2, uS, uI 1] [(.int 3), (.int 0), (.ref aB), (.int 1), (.ref aB)])) rfl (by rw [hml]; rfl) rfl (hb hby d3_49) (by decide) (W := 0) (by show 2 * 0 + _ ≤ _; exact Nat.le_of_eq rfl) (by decide)
  have Kd41 : Keep h22 h41 [aB] := Kc41
  have f42 := f23.keep Kd41
  have f43 := f24.keep Kd41 (ninS ne_a1_aB nin0)
  have f44 := f25.keep Kd41 (ninS ne_a1_aB nin0)
  have f45 := f26.keep Kd41 (ninS ne_a1_aB nin0)
  have f46 := f27.keep Kd41 (ninS ne_a1_aB nin0)
  have f47 := f28.keep Kd41 (ninS ne_a1_aB nin0)
  have f48 := f30.keep Kd41 (ninS (Ne.symm ne_aB_aP) nin0)
  have f49 := f31.keep Kd41 (ninS (Ne.symm ne_aB_aM) nin0)
  have f50 := f32.keep Kd41
  have f51 := f33.keep Kd41
  have f52 := f34.keep Kd41
  have zs53 : n0 ≤ h41.size := Nat.le_trans zs36 Kd41.1
  have K54 := K35.trans Kd41 (allS (Or.inl (List.mem_of_getElem? (i := 1) rfl)) all0)
  have Vx41 : Arv Z h41 aB kB .long (8 : Int32) [(.long b1), (.long b2), (.long b3), (.long b3), (.long b4), (.long b5), (.long b6), (.long b7)] (.long 0) := V41
  obtain ⟨T55, X55, e55, st55⟩ := getF X41 hx hZ hown (host := "") (Or.inl (own_w hw (i := 13) rfl)) Via.refl e41 f44 (g := (mkF m 53 #[uR a1, uL q2, uS, uI 1] [(.ref a1)])) rfl rfl (hb hby d3_53)
  obtain ⟨T56, X56, e56, st56⟩ := getF X55 hx hZ hown (host := "") (Or.inl (own_w hw (i := 13) rfl)) Via.refl e55 f44 (g := (mkF m 58 #[uR a1, uL q2, uS, uI 1] [(.ref a1), (.int 1), (.ref aP)])) rfl rfl (hb hby d3_58)
  obtain ⟨T57, X57, e57, st57⟩ := getF X56 hx hZ hown (host := "") (Or.inl (own_w hw (i := 27) rfl)) Via.refl e56 f46 (g := (mkF m 63 #[uR a1, uL q2, uS, uI 1] [(.ref a1), (.int 0), (.ref aP), (.int 1), (.ref aP)])) rfl rfl (hb hby d3_63)
  obtain ⟨T58, h58, L58, X58, e58, N58, Kc58, V58, st58⟩ := cpA X57 hx hZ hown (own_w hw (i := 41) rfl) (own_w hw (i := 44) rfl) (own_w hw (i := 42) rfl) (own_w hw (i := 43) rfl) e57 f48 f48 (sp := (1 : Int32)) (dp := (0 : Int32)) (nn := (3 : Int32)) (us := [(.long 20), (.long 30), (.long 40)]) (Or.inl ⟨rfl, rfl⟩) (by decide) (by decide) (by decide) (by decide) (by decide) rfl (Nat.le_of_ble_eq_true rfl) N41 g_aP (g := (mkF m 66 #[uR a1, uL q2, uS, uI 1] [(.int 3), (.int 0), (.ref aP), (.int 1), (.ref aP)])) rfl (by rw [hml]; rfl) rfl (hb hby d3_66) (by decide) (W := 0) (by show 2 * 0 + _ ≤ _; exact Nat.le_of_eq rfl) (by decide)
  have Kd58 : Keep h41 h58 [aP] := Kc58
  have f59 := f42.keep Kd58
  have f60 := f43.keep Kd58 (ninS ne_a1_aP nin0)
  have f61 := f44.keep Kd58 (ninS ne_a1_aP nin0)
  have f62 := f45.keep Kd58 (ninS ne_a1_aP nin0)
  have f63 := f46.keep Kd58 (ninS ne_a1_aP nin0)
  have f64 := f47.keep Kd58 (ninS ne_a1_aP nin0)
  have f65 := f49.keep Kd58 (ninS (Ne.symm ne_aP_aM) nin0)
  have f66 := f50.keep Kd58
  have f67 := f51.keep Kd58
  have f68 := f52.keep Kd58
  have f69 := Vx41.keep Kd58 (ninS ne_aB_aP nin0)
  have zs70 : n0 ≤ h58.size := Nat.le_trans zs53 Kd58.1
  have K71 := K54.trans Kd58 (allS (Or.inl (List.mem_of_getElem? (i := 2) rfl)) all0)
  have Vx58 : Arv Z h58 aP kP .long (8 : Int32) [(.long 20), (.long 30), (.long 40), (.long 40), (.long 0), (.long 0), (.long 0), (.long 0)] (.long 0) := V58
  obtain ⟨T72, X72, e72, st72⟩ := getF X58 hx hZ hown (host := "") (Or.inl (own_w hw (i := 15) rfl)) Via.refl e58 f62 (g := (mkF m 70 #[uR a1, uL q2, uS, uI 1] [(.ref a1)])) rfl rfl (hb hby d3_70)
  obtain ⟨T73, X73, e73, st73⟩ := getF X72 hx hZ hown (host := "") (Or.inl (own_w hw (i := 15) rfl)) Via.refl e72 f62 (g := (mkF m 75 #[uR a1, uL q2, uS, uI 1] [(.ref a1), (.int 1), (.ref aM)])) rfl rfl (hb hby d3_75)
  obtain ⟨T74, X74, e74, st74⟩ := getF X73 hx hZ hown (host := "") (Or.inl (own_w hw (i := 27) rfl)) Via.refl e73 f63 (g := (mkF m 80 #[uR a1, uL q2, uS, uI 1] [(.ref a1), (.int 0), (.ref aM), (.int 1), (.ref aM)])) rfl rfl (hb hby d3_80)
  obtain ⟨T75, h75, L75, X75, e75, N75, Kc75, V75, st75⟩ := cpA X74 hx hZ hown (own_w hw (i := 41) rfl) (own_w hw (i := 44) rfl) (own_w hw (i := 42) rfl) (own_w hw (i := 43) rfl) e74 f65 f65 (sp := (1 : Int32)) (dp := (0 : Int32)) (nn := (3 : Int32)) (us := [(.long x1), (.long x2), (.long x3)]) (Or.inl ⟨rfl, rfl⟩) (by decide) (by decide) (by decide) (by decide) (by decide) rfl (Nat.le_of_ble_eq_true rfl) N58 g_aM (g := (mkF m 83 #[uR a1, uL q2, uS, uI 1] [(.int 3), (.int 0), (.ref aM), (.int 1), (.ref aM)])) rfl (by rw [hml]; rfl) rfl (hb hby d3_83) (by decide) (W := 0) (by show 2 * 0 + _ ≤ _; exact Nat.le_of_eq rfl) (by decide)
  have Kd75 : Keep h58 h75 [aM] := Kc75
  have f76 := f59.keep Kd75
  have f77 := f60.keep Kd75 (ninS ne_a1_aM nin0)
  have f78 := f61.keep Kd75 (ninS ne_a1_aM nin0)
  have f79 := f62.keep Kd75 (ninS ne_a1_aM nin0)
  have f80 := f63.keep Kd75 (ninS ne_a1_aM nin0)
  have f81 := f64.keep Kd75 (ninS ne_a1_aM nin0)
  have f82 := f66.keep Kd75
  have f83 := f67.keep Kd75
  have f84 := f68.keep Kd75
  have f85 := f69.keep Kd75 (ninS ne_aB_aM nin0)
  have f86 := Vx58.keep Kd75 (ninS ne_aP_aM nin0)
  have zs87 : n0 ≤ h75.size := Nat.le_trans zs70 Kd75.1
  have K88 := K71.trans Kd75 (allS (Or.inl (List.mem_of_getElem? (i := 3) rfl)) all0)
  have Vx75 : Arv Z h75 aM kM .long (8 : Int32) [(.long x1), (.long x2), (.long x3), (.long x3), (.long x4), (.long x5), (.long x6), (.long x7)] (.long 0) := V75
  obtain ⟨T89, X89, e89, st89⟩ := getF X75 hx hZ hown (host := "") (Or.inl (own_w hw (i := 27) rfl)) Via.refl e75 f80 (g := (mkF m 88 #[uR a1, uL q2, uS, uI 1] [(.ref a1), (.ref a1)])) rfl rfl (hb hby d3_88)
  -- pc 95: Math.max by rmmx2
  obtain ⟨_, _, ⟨T90, L90, ck90, cn90⟩, -, X90, ⟨Lc90, hQ90, l90, y90, z90⟩, st90⟩ := Jvm.LawKit.callS X89 hx (y := (⟨"java/lang/Math", "max", "(II)I"⟩ : MethodName)) hown (mvT hZ (own_w hw (i := 45) rfl)) (mvT hZ (own_w hw (i := 46) rfl)) (mvT hZ (own_w hw (i := 47) rfl)) (mvT hZ (own_w hw (i := 48) rfl)) (by decide) (backOf (W := 1) (rmmx2 l Z a0 hw [] (6 : Int32) (8 : Int32) h75 n0 zs87 (by decide)) hZ (own_w hw (i := 48) rfl) (own_w hw (i := 47) rfl) (by decide) (by decide)) (g := (mkF m 95 #[uR a1, uL q2, uS, uI 1] [(.int 8), (.int 6), (.ref a1)])) rfl (by rw [hml]; rfl) (argsL := [(.int 6), (.int 8)]) (rest := [(.ref a1)]) (lenOf pd_47 rfl) rfl (by show 2 * 0 + _ ≤ _; exact Nat.le_of_eq rfl) (hb hby d3_95) (fun _ _ => ⟨rfl, e89, (by decide : 0 + 0 ≤ _), (by decide : 0 + 0 ≤ _)⟩)
  dsimp only [Pt.U, Pt.locs, Pt.cells, Pt.slots] at X90 l90 y90 z90 st90 hQ90
  subst y90 z90
  obtain ⟨rfl, N90q, e90⟩ := hQ90
  have N91 : Fr n0 L90 := by rw [l90]; exact Fr.app N75 N90q
  -- pc 98: BatchIndex.resize by rmrz8
  obtain ⟨cq92, qc92, qc92'⟩ := f76.cell
  obtain ⟨_, _, ⟨T92, L92, ck92, cn92⟩, -, X92, ⟨Lc92, hQ92, l92, y92, z92⟩, st92⟩ := X90.privateBack hx (y := (⟨KC, "resize", "(I)V"⟩ : MethodName)) hown (mvT hZ (own_w hw (i := 49) rfl)) (mvT hZ (own_w hw (i := 50) rfl)) (own_sel (y := (⟨KC, "resize", "(I)V"⟩ : MethodName)) (mvT hZ (own_w hw (i := 1) rfl)) (Cond.privateMethod_at (mvP hZ (own_w hw (i := 51) rfl) (args := #[]))) (mvT hZ (own_w hw (i := 50) rfl)) (by decide)) (Cond.privateMethod_at (mvP hZ (own_w hw (i := 51) rfl) (args := #[]))) (mvT hZ (own_w hw (i := 52) rfl)) (by decide) (backOf (W := 0) (rmrz8 l Z a0 hw [] a1 aB aP aM kB kP kM (3 : Int32) (1 : Int64) b1 b2 b3 b3 b4 b5 b6 b7 (20 : Int64) (30 : Int64) (40 : Int64) (40 : Int64) (0 : Int64) (0 : Int64) (0 : Int64) (0 : Int64) x1 x2 x3 x3 x4 x5 x6 x7 h75 n0 zs87 f76 f80 f81 f77 f78 f79 f85 f86 Vx75 f82 f83 f84 g_a1 ne_a1_aB ne_a1_aP ne_a1_aM ne_aB_aP ne_aB_aM ne_aP_aM) hZ (own_w hw (i := 52) rfl) (own_w hw (i := 2) rfl) (by decide) (by decide)) (g := (mkF m 98 #[uR a1, uL q2, uS, uI 1] [(.int 8), (.ref a1)])) rfl (by rw [hml]; rfl) (Steps.refl _) (a := a1) (by rw [e90]; exact qc92) qc92' (argsL := [(.int 8)]) (rest := []) (lenOf pd_114 rfl) rfl (by show 2 * 0 + _ ≤ _; exact Nat.le_of_eq rfl) (hb hby d3_98) (fun _ _ => ⟨rfl, e90, (by decide : 0 + 3 ≤ _), (by decide : 0 + 24 ≤ _)⟩)
  dsimp only [Pt.U, Pt.locs, Pt.cells, Pt.slots] at X92 l92 y92 z92 st92 hQ92
  subst y92 z92
  obtain ⟨n1_92, kn1_92, n2_92, kn2_92, n3_92, kn3_92, rfl, N92q, K92q, gq92_0, gq92_1, gq92_2, sq92_0, sq92_1, sq92_2, nq92_1_0, nq92_2_0, nq92_2_1, o92_0, o92_1, o92_2, o92_3, o92_4, o92_5, o92_6, o92_7, o92_8, o92_9, o92_10, o92_11⟩ := hQ92
  have N93 : Fr n0 L92 := by rw [l92]; exact Fr.app N91 N92q
  have sz_n1_92 : h0.size ≤ n1_92 := Nat.le_trans K88.1 sq92_0
  have sz_n2_92 : h0.size ≤ n2_92 := Nat.le_trans K88.1 sq92_1
  have sz_n3_92 : h0.size ≤ n3_92 := Nat.le_trans K88.1 sq92_2
  have K119 := K88.trans K92q (allS (Or.inl (List.mem_of_getElem? (i := 0) rfl)) all0)
  obtain ⟨fs, hr, hrun, hended, hW, hsame⟩ := X92.leave (v := none) (fun _ => rfl) Bd.notSynchronized
  refine ⟨_, _, pre0 _ ?_, hrun, hended, _, _, rfl, ?_, ⟨_, rfl⟩, hW, hsame.mono (by decide) (by decide)⟩
  · show Steps p.tables e below (s₁.setTop (mkF m 0 #[uR a1, uL q2, uS, uU] [])) _
    refine XS.aloadN X0.here hx rfl (hb hby d3_0) rfl rfl ?_
    refine XS.aloadN X0.here hx rfl (hb hby d3_1) rfl rfl ?_
    refine st1 _ ?_
    refine XS.lloadN X1.here hx rfl (hb hby d3_5) rfl ?_
    refine XS.lconst X1.here hx rfl (hb hby d3_6) ?_
    refine XS.lsub X1.here hx rfl (hb hby d3_7) rfl ?_
    refine st2.trans ?_
    refine XS.iconst X2.here hx rfl (hb hby d3_11) ?_
    refine XS.iadd X2.here hx rfl (hb hby d3_12) rfl ?_
    refine XS.istoreN X2.here hx rfl (hb hby d3_13) rfl (l' := #[uR a1, uL q2, uS, uI 1]) rfl ?_
    refine XS.aloadN X2.here hx rfl (hb hby d3_14) rfl rfl ?_
    refine XS.dup X2.here hx rfl (hb hby d3_15) rfl rfl ?_
    refine st4 _ ?_
    refine XS.iloadN X4.here hx rfl (hb hby d3_19) rfl ?_
    refine XS.isub X4.here hx rfl (hb hby d3_20) rfl ?_
    refine st5 _ ?_
    show Steps p.tables e below (T5.setTop (mkF m 24 #[uR a1, uL q2, uS, uI 1] [])) _
    refine XS.aloadN X5.here hx rfl (hb hby d3_24) rfl rfl ?_
    refine XS.dup X5.here hx rfl (hb hby d3_25) rfl rfl ?_
    refine st21 _ ?_
    refine XS.iloadN X21.here hx rfl (hb hby d3_29) rfl ?_
    refine XS.i2l X21.here hx rfl (hb hby d3_30) rfl ?_
    refine XS.ladd X21.here hx rfl (hb hby d3_31) rfl ?_
    refine st22 _ ?_
    refine XS.aloadN X22.here hx rfl (hb hby d3_35) rfl rfl ?_
    refine st38 _ ?_
    refine XS.iloadN X38.here hx rfl (hb hby d3_39) rfl ?_
    refine XS.aloadN X38.here hx rfl (hb hby d3_40) rfl rfl ?_
    refine st39 _ ?_
    refine XS.iconst X39.here hx rfl (hb hby d3_44) ?_
    refine XS.aloadN X39.here hx rfl (hb hby d3_45) rfl rfl ?_
    refine st40 _ ?_
    refine st41 _ ?_
    show Steps p.tables e below (T41.setTop (mkF m 52 #[uR a1, uL q2, uS, uI 1] [])) _
    refine XS.aloadN X41.here hx rfl (hb hby d3_52) rfl rfl ?_
    refine st55 _ ?_
    refine XS.iloadN X55.here hx rfl (hb hby d3_56) rfl ?_
    refine XS.aloadN X55.here hx rfl (hb hby d3_57) rfl rfl ?_
    refine st56 _ ?_
    refine XS.iconst X56.here hx rfl (hb hby d3_61) ?_
    refine XS.aloadN X56.here hx rfl (hb hby d3_62) rfl rfl ?_
    refine st57 _ ?_
    refine st58 _ ?_
    refine XS.aloadN X58.here hx rfl (hb hby d3_69) rfl rfl ?_
    refine st72 _ ?_
    refine XS.iloadN X72.here hx rfl (hb hby d3_73) rfl ?_
    refine XS.aloadN X72.here hx rfl (hb hby d3_74) rfl rfl ?_
    refine st73 _ ?_
    refine XS.iconst X73.here hx rfl (hb hby d3_78) ?_
    refine XS.aloadN X73.here hx rfl (hb hby d3_79) rfl rfl ?_
    show Steps p.tables e below (T73.setTop (mkF m 80 #[uR a1, uL q2, uS, uI 1] [(.ref a1), (.int 0), (.ref aM), (.int 1), (.ref aM)])) _
    refine st74 _ ?_
    refine st75 _ ?_
    refine XS.aloadN X75.here hx rfl (hb hby d3_86) rfl rfl ?_
    refine XS.aloadN X75.here hx rfl (hb hby d3_87) rfl rfl ?_
    refine st89 _ ?_
    refine XS.iconst X89.here hx rfl (hb hby d3_91) ?_
    refine XS.imul X89.here hx rfl (hb hby d3_92) rfl ?_
    refine XS.bipush X89.here hx rfl (hb hby d3_93) ?_
    refine st90 _ ?_
    refine st92.trans ?_
    exact X92.returnOut hx Bd.returns (hb hby d3_101) hr
  · show Qdr41 Z a1 q2 aB aP aM kB kP kM b0 b1 b2 b3 b4 b5 b6 b7 x0 x1 x2 x3 x4 x5 x6 x7 h0 n0 _ T92.heap _
    exact ⟨n1_92, kn1_92, n2_92, kn2_92, n3_92, kn3_92, rfl, N93, K119, gq92_0, gq92_1, gq92_2, sz_n1_92, sz_n2_92, sz_n3_92, nq92_1_0, nq92_2_0, nq92_2_1, o92_0, o92_4, o92_5, o92_3, o92_10⟩
theorem ef_dr42 (m : MethodId) (x0 : Addr) (x1 : Int64) : entryFrame m #[(.ref x0), (.long x1)] 4 = mkF m 0 #[.val (.ref x0), .val (.long x1), .second, .unset] [] := by first | (simp [entryFrame, mkF, argsToLocals, Value.category]; done) | rfl
abbrev R_dr42 : Room := { frames := 3, cells := 3, slots := 24, locals := 56 }
def Qdr42 (Z : State) (a1 : Addr) (q2 : Int64) (aB : Addr) (aP : Addr) (aM : Addr) (kB : ClassId) (kP : ClassId) (kM : ClassId) (b0 : Int64) (b1 : Int64) (b2 : Int64) (b3 : Int64) (b4 : Int64) (b5 : Int64) (b6 : Int64) (b7 : Int64) (x0 : Int64) (x1 : Int64) (x2 : Int64) (x3 : Int64) (x4 : Int64) (x5 : Int64) (x6 : Int64) (x7 : Int64) (h0 : Heap) (n0 : Nat) (v : Option Value) (h : Heap) (L : List Loc) : Prop := ∃ (n1 : Addr) (kn1 : ClassId) (n2 : Addr) (kn2 : ClassId) (n3 : Addr) (kn3 : ClassId), v = none ∧ Fr n0 L ∧ Keep h0 h [a1, aB, aP, aM] ∧ n0 ≤ n1 ∧ n0 ≤ n2 ∧ n0 ≤ n3 ∧ h0.size ≤ n1 ∧ h0.size ≤ n2 ∧ h0.size ≤ n3 ∧ n2 ≠ n1 ∧ n3 ≠ n1 ∧ n3 ≠ n2 ∧ Exa Z h a1 KC ∧ Fld Z h a1 KC "count" "I" (.int 2) ∧ Fld Z h a1 KC "first" "J" (.long 2) ∧ Fld Z h a1 KC KM "[J" (.ref n3) ∧ Arv Z h n3 kn3 .long (8 : Int32) [(.long x2), (.long x3), (.long x2), (.long x3), (.long x4), (.long x5), (.long x6), (.long x7)] (.long 0)
set_option maxRecDepth 65536 in
set_option maxHeartbeats 40000000 in
theorem rmdr42 (l : Launch) (Z : State) (a0 : Array Value) (hw : ∀ d ∈ tables_1, d.before a0 Z = true) (ws : List Jvm.Cond) (a1 : Addr) (q2 : Int64) (aB : Addr) (aP : Addr) (aM : Addr) (kB : ClassId) (kP : ClassId) (kM : ClassId) (b0 : Int64) (b1 : Int64) (b2 : Int64) (b3 : Int64) (b4 : Int64) (b5 : Int64) (b6 : Int64) (b7 : Int64) (x0 : Int64) (x1 : Int64) (x2 : Int64) (x3 : Int64) (x4 : Int64) (x5 : Int64) (x6 : Int64) (x7 : Int64) (h0 : Heap) (n0 : Nat) (Z0 : n0 ≤ h0.size) (E_a1 : Exa Z h0 a1 KC) (F_baseOffsets_a1 : Fld Z h0 a1 KC KB "[J" (.ref aB)) (F_positions_a1 : Fld Z h0 a1 KC KP "[J" (.ref aP)) (F_maxTimestampsSoFar_a1 : Fld Z h0 a1 KC KM "[J" (.ref aM)) (F_count_a1 : Fld Z h0 a1 KC "count" "I" (.int 4)) (F_first_a1 : Fld Z h0 a1 KC "first" "J" (.long 0)) (V_aB : Arv Z h0 aB kB .long (8 : Int32) [(.long b0), (.long b1), (.long b2), (.long b3), (.long b4), (.long b5), (.long b6), (.long b7)] (.long 0)) (V_aP : Arv Z h0 aP kP .long (8 : Int32) [(.long 10), (.long 20), (.long 30), (.long 40), (.long 0), (.long 0), (.long 0), (.long 0)] (.long 0)) (V_aM : Arv Z h0 aM kM .long (8 : Int32) [(.long x0), (.long x1), (.long x2), (.long x3), (.long x4), (.long x5), (.long x6), (.long x7)] (.long 0)) (E_aB : Exa Z h0 aB "[J") (E_aP : Exa Z h0 aP "[J") (E_aM : Exa Z h0 aM "[J") (g_a1 : n0 ≤ a1) (g_aB : n0 ≤ aB) (g_aP : n0 ≤ aP) (g_aM : n0 ≤ aM) (ne_a1_aB : a1 ≠ aB) (ne_a1_aP : a1 ≠ aP) (ne_a1_aM : a1 ≠ aM) (ne_aB_aP : aB ≠ aP) (ne_aB_aM : aB ≠ aM) (ne_aP_aM : aP ≠ aM) (hk : (fla_4 (q2 - (1 : Int64))) = (1 : Int32)) :
    MetFree l (⟨KC, "dropBefore", "(J)V"⟩ : MethodName) (head1 (Jvm.Cond.code (⟨KC, "dropBefore", "(J)V"⟩ : MethodName) prog_126_method_11_code 4 none :: ws) R_dr42) (fun a U => a = #[(.ref a1), (.long q2)] ∧ Z.Warmed39 U.vm ∧ U.heap = h0) (fun _ _ _ _ _ => True) (fun _ U o U' => ∃ v L, o = .returned v ∧ Qdr42 Z a1 q2 aB aP aM kB kP kM b0 b1 b2 b3 b4 b5 b6 b7 x0 x1 x2 x3 x4 x5 x6 x7 h0 n0 v U'.heap L ∧ FrameEnd U o U' L R_dr42.cells R_dr42.slots) := by
  refine MetFree.of_bodySF (plainFor_of_name pn_55) hisR ?_
  intro p e s m args below meth c s₁ Bd hml0 hP hK
  obtain ⟨rfl, hZ, hh⟩ := hP
  have hx := Bd.exec
  have hby := Bd.bytes
  have hml : c.maxLocals = 4 := hml0
  have hown : s.vm.findClass KC = some m.cls := findClass_of_methodNamed Bd.named
  have hnm := (name_of_methodNamed Bd.named Bd.method).1
  have X0 : Stand p l e R_dr42 s m #[(.ref a1), (.long q2)] below meth c s₁ [] 0 0 := Stand.of_body Bd
  have e0 : s₁.heap = h0 := by rw [← hh, Bd.state]; rfl
  have N0 := Fr.nil n0
  have pre0 : ∀ t, Steps p.tables e below (s₁.setTop (mkF m 0 #[uR a1, uL q2, uS, uU] [])) t → Steps p.tables e below (s₁.setTop (entryFrame m #[(.ref a1), (.long q2)] 4)) t := fun t k => castTop (ef_dr42 m a1 q2) k
  obtain ⟨T1, X1, e1, st1⟩ := getF X0 hx hZ hown (host := "") (Or.inl (own_w hw (i := 13) rfl)) Via.refl e0 F_positions_a1 (g := (mkF m 2 #[uR a1, uL q2, uS, uU] [(.ref a1), (.ref a1)])) rfl rfl (hb hby d3_2)
  -- pc 8: BatchIndex.lastAtOrBefore by rmla_4
  obtain ⟨cq2, qc2, qc2'⟩ := E_a1.cell
  obtain ⟨_, _, ⟨T2, L2, ck2, cn2⟩, -, X2, ⟨Lc2, hQ2, l2, y2, z2⟩, st2⟩ := X1.privateBack hx (y := (⟨KC, "lastAtOrBefore", "([JJ)I"⟩ : MethodName)) hown (mvT hZ (own_w hw (i := 23) rfl)) (mvT hZ (own_w hw (i := 24) rfl)) (own_sel (y := (⟨KC, "lastAtOrBefore", "([JJ)I"⟩ : MethodName)) (mvT hZ (own_w hw (i := 1) rfl)) (Cond.privateMethod_at (mvP hZ (own_w hw (i := 25) rfl) (args := #[]))) (mvT hZ (own_w hw (i := 24) rfl)) (by decide)) (Cond.privateMethod_at (mvP hZ (own_w hw (i := 25) rfl) (args := #[]))) (mvT hZ (own_w hw (i := 26) rfl)) (by decide) (backOf (W := 0) (rmla_4 l Z a0 hw [] a1 aP (q2 - (1 : Int64)) kP (1 : Int32) h0 n0 Z0 F_count_a1 V_aP hk) hZ (own_w hw (i := 26) rfl) (own_w hw (i := 2) rfl) (by decide) (by decide)) (g := (mkF m 8 #[uR a1, uL q2, uS, uU] [(.long (q2 - (1 : Int64))), (.ref aP), (.ref a1)])) rfl (by rw [hml]; rfl) (Steps.refl _) (a := a1) (by rw [e1]; exact qc2) qc2' (argsL := [(.ref aP), (.long (q2 - (1 : Int64)))]) (rest := []) (lenOf pd_239 rfl) rfl (by show 2 * 0 + _ ≤ _; exact Nat.le_of_eq rfl) (hb hby d3_8) (fun _ _ => ⟨rfl, e1, (by decide : 0 + 0 ≤ _), (by decide : 0 + 0 ≤ _)⟩)
  dsimp only [Pt.U, Pt.locs, Pt.cells, Pt.slots] at X2 l2 y2 z2 st2 hQ2
  subst y2 z2
  obtain ⟨rfl, N2q, e2⟩ := hQ2
  have N3 : Fr n0 L2 := by rw [l2]; exact Fr.app N0 N2q
  obtain ⟨T4, X4, e4, st4⟩ := getF X2 hx hZ hown (host := "") (Or.inl (own_w hw (i := 27) rfl)) Via.refl e2 F_count_a1 (g := (mkF m 16 #[uR a1, uL q2, uS, uI 2] [(.ref a1), (.ref a1)])) rfl rfl (hb hby d3_16)
  obtain ⟨T5, h5, X5, e5, W5, st5⟩ := putF X4 hx hZ hown (host := "") (Or.inl (own_w hw (i := 27) rfl)) Via.refl e4 F_count_a1 E_a1 (Or.inl (own_w hw (i := 28) rfl)) (own_w hw (i := 1) rfl) (ty := .int) (by decide) rfl rfl (g := (mkF m 21 #[uR a1, uL q2, uS, uI 2] [(.int 2), (.ref a1)])) rfl rfl (hb hby d3_21)
  have f6 := E_a1.wr W5
  have f7 := F_baseOffsets_a1.other W5 (Or.inr (sn_143 hw))
  have f8 := F_positions_a1.other W5 (Or.inr (sn_144 hw))
  have f9 := F_maxTimestampsSoFar_a1.other W5 (Or.inr (sn_145 hw))
  have f10 := F_count_a1.same W5
  have f11 := F_first_a1.other W5 (Or.inr (sn_146 hw))
  have f12 := V_aB.other W5 (Ne.symm ne_a1_aB)
  have f13 := V_aP.other W5 (Ne.symm ne_a1_aP)
  have f14 := V_aM.other W5 (Ne.symm ne_a1_aM)
  have f15 := E_aB.wr W5
  have f16 := E_aP.wr W5
  have f17 := E_aM.wr W5
  have K18 := (Keep.refl h0 [a1, aB, aP, aM]).wr W5 (Or.inl (List.mem_of_getElem? (i := 0) rfl))
  have zs19 : n0 ≤ h5.size := Nat.le_trans Z0 (Keep.of_wr W5).1
  have N20 := Fr.snoc X5 N3 g_a1
  obtain ⟨T21, X21, e21, st21⟩ := getF X5 hx hZ hown (host := "") (Or.inl (own_w hw (i := 39) rfl)) Via.refl e5 f11 (g := (mkF m 26 #[uR a1, uL q2, uS, uI 2] [(.ref a1), (.ref a1)])) rfl rfl (hb hby d3_26)
  obtain ⟨T22, h22, X22, e22, W22, st22⟩ := putF X21 hx hZ hown (host := "") (Or.inl (own_w hw (i := 39) rfl)) Via.refl e21 f11 f6 (Or.inl (own_w hw (i := 40) rfl)) (own_w hw (i := 1) rfl) (ty := .long) (by decide) rfl rfl (g := (mkF m 32 #[uR a1, uL q2, uS, uI 2] [(.long 2), (.ref a1)])) rfl rfl (hb hby d3_32)
  have f23 := f6.wr W22
  have f24 := f7.other W22 (Or.inr (sn_256 hw))
  have f25 := f8.other W22 (Or.inr (sn_257 hw))
  have f26 := f9.other W22 (Or.inr (sn_258 hw))
  have f27 := f10.other W22 (Or.inr (sn_259 hw))
  have f28 := f11.same W22
  have f29 := f12.other W22 (Ne.symm ne_a1_aB)
  have f30 := f13.other W22 (Ne.symm ne_a1_aP)
  have f31 := f14.other W22 (Ne.symm ne_a1_aM)
  have f32 := f15.wr W22
  have f33 := f16.wr W22
  have f34 := f17.wr W22
  have K35 := K18.wr W22 (Or.inl (List.mem_of_getElem? (i := 0) rfl))
  have zs36 : n0 ≤ h22.size := Nat.le_trans zs19 (Keep.of_wr W22).1
  have N37 := Fr.snoc X22 N20 g_a1
  obtain ⟨T38, X38, e38, st38⟩ := getF X22 hx hZ hown (host := "") (Or.inl (own_w hw (i := 11) rfl)) Via.refl e22 f24 (g := (mkF m 36 #[uR a1, uL q2, uS, uI 2] [(.ref a1)])) rfl rfl (hb hby d3_36)
  obtain ⟨T39, X39, e39, st39⟩ := getF X38 hx hZ hown (host := "") (Or.inl (own_w hw (i := 11) rfl)) Via.refl e38 f24 (g := (mkF m 41 #[uR a1, uL q2, uS, uI 2] [(.ref a1), (.int 2), (.ref aB)])) rfl rfl (hb hby d3_41)
  obtain ⟨T40, X40, e40, st40⟩ := getF X39 hx hZ hown (host := "") (Or.inl (own_w hw (i := 27) rfl)) Via.refl e39 f27 (g := (mkF m 46 #[uR a1, uL q2, uS, uI 2] [(.ref a1), (.int 0), (.ref aB), (.int 2), (.ref aB)])) rfl rfl (hb hby d3_46)
  obtain ⟨T41, h41, L41, X41, e41, N41, Kc41, V41, st41⟩ := cpA X40 hx hZ hown (own_w hw (i := 41) rfl) (own_w hw (i := 44) rfl) (own_w hw (i := 42) rfl) (own_w hw (i := 43) rfl) e40 f29 f29 (sp := (2 : Int32)) (dp := (0 : Int32)) (nn := (2 : Int32)) (us := [(.long b2), (.long b3)]) (Or.inl ⟨rfl, rfl⟩) (by decide) (by decide) (by decide) (by decide) (by decide) rfl (Nat.le_of_ble_eq_true rfl) N37 g_aB (g := (mkF m 49 #[uR a1, uL q2, uS, uI 2] [(.int 2), (.int 0), (.ref aB), (.int 2), (.ref aB)])) rfl (by rw [hml]; rfl) rfl (hb hby d3_49) (by decide) (W := 0) (by show 2 * 0 + _ ≤ _; exact Nat.le_of_eq rfl) (by decide)
  have Kd41 : Keep h22 h41 [aB] := Kc41
  have f42 := f23.keep Kd41
  have f43 := f24.keep Kd41 (ninS ne_a1_aB nin0)
  have f44 := f25.keep Kd41 (ninS ne_a1_aB nin0)
  have f45 := f26.keep Kd41 (ninS ne_a1_aB nin0)
  have f46 := f27.keep Kd41 (ninS ne_a1_aB nin0)
  have f47 := f28.keep Kd41 (ninS ne_a1_aB nin0)
  have f48 := f30.keep Kd41 (ninS (Ne.symm ne_aB_aP) nin0)
  have f49 := f31.keep Kd41 (ninS (Ne.symm ne_aB_aM) nin0)
  have f50 := f32.keep Kd41
  have f51 := f33.keep Kd41
  have f52 := f34.keep Kd41
  have zs53 : n0 ≤ h41.size := Nat.le_trans zs36 Kd41.1
  have K54 := K35.trans Kd41 (allS (Or.inl (List.mem_of_getElem? (i := 1) rfl)) all0)
  have Vx41 : Arv Z h41 aB kB .long (8 : Int32) [(.long b2), (.long b3), (.long b2), (.long b3), (.long b4), (.long b5), (.long b6), (.long b7)] (.long 0) := V41
  obtain ⟨T55, X55, e55, st55⟩ := getF X41 hx hZ hown (host := "") (Or.inl (own_w hw (i := 13) rfl)) Via.refl e41 f44 (g := (mkF m 53 #[uR a1, uL q2, uS, uI 2] [(.ref a1)])) rfl rfl (hb hby d3_53)
  obtain ⟨T56, X56, e56, st56⟩ := getF X55 hx hZ hown (host := "") (Or.inl (own_w hw (i := 13) rfl)) Via.refl e55 f44 (g := (mkF m 58 #[uR a1, uL q2, uS, uI 2] [(.ref a1), (.int 2), (.ref aP)])) rfl rfl (hb hby d3_58)
  obtain ⟨T57, X57, e57, st57⟩ := getF X56 hx hZ hown (host := "") (Or.inl (own_w hw (i := 27) rfl)) Via.refl e56 f46 (g := (mkF m 63 #[uR a1, uL q2, uS, uI 2] [(.ref a1), (.int 0), (.ref aP), (.int 2), (.ref aP)])) rfl rfl (hb hby d3_63)
  obtain ⟨T58, h58, L58, X58, e58, N58, Kc58, V58, st58⟩ := cpA X57 hx hZ hown (own_w hw (i := 41) rfl) (own_w hw (i := 44) rfl) (own_w hw (i := 42) rfl) (own_w hw (i := 43) rfl) e57 f48 f48 (sp := (2 : Int32)) (dp := (0 : Int32)) (nn := (2 : Int32)) (us := [(.long 30), (.long 40)]) (Or.inl ⟨rfl, rfl⟩) (by decide) (by decide) (by decide) (by decide) (by decide) rfl (Nat.le_of_ble_eq_true rfl) N41 g_aP (g := (mkF m 66 #[uR a1, uL q2, uS, uI 2] [(.int 2), (.int 0), (.ref aP), (.int 2), (.ref aP)])) rfl (by rw [hml]; rfl) rfl (hb hby d3_66) (by decide) (W := 0) (by show 2 * 0 + _ ≤ _; exact Nat.le_of_eq rfl) (by decide)
  have Kd58 : Keep h41 h58 [aP] := Kc58
  have f59 := f42.keep Kd58
  have f60 := f43.keep Kd58 (ninS ne_a1_aP nin0)
  have f61 := f44.keep Kd58 (ninS ne_a1_aP nin0)
  have f62 := f45.keep Kd58 (ninS ne_a1_aP nin0)
  have f63 := f46.keep Kd58 (ninS ne_a1_aP nin0)
  have f64 := f47.keep Kd58 (ninS ne_a1_aP nin0)
  have f65 := f49.keep Kd58 (ninS (Ne.symm ne_aP_aM) nin0)
  have f66 := f50.keep Kd58
  have f67 := f51.keep Kd58
  have f68 := f52.keep Kd58
  have f69 := Vx41.keep Kd58 (ninS ne_aB_aP nin0)
  have zs70 : n0 ≤ h58.size := Nat.le_trans zs53 Kd58.1
  have K71 := K54.trans Kd58 (allS (Or.inl (List.mem_of_getElem? (i := 2) rfl)) all0)
  have Vx58 : Arv Z h58 aP kP .long (8 : Int32) [(.long 30), (.long 40), (.long 30), (.long 40), (.long 0), (.long 0), (.long 0), (.long 0)] (.long 0) := V58
  obtain ⟨T72, X72, e72, st72⟩ := getF X58 hx hZ hown (host := "") (Or.inl (own_w hw (i := 15) rfl)) Via.refl e58 f62 (g := (mkF m 70 #[uR a1, uL q2, uS, uI 2] [(.ref a1)])) rfl rfl (hb hby d3_70)
  obtain ⟨T73, X73, e73, st73⟩ := getF X72 hx hZ hown (host := "") (Or.inl (own_w hw (i := 15) rfl)) Via.refl e72 f62 (g := (mkF m 75 #[uR a1, uL q2, uS, uI 2] [(.ref a1), (.int 2), (.ref aM)])) rfl rfl (hb hby d3_75)
  obtain ⟨T74, X74, e74, st74⟩ := getF X73 hx hZ hown (host := "") (Or.inl (own_w hw (i := 27) rfl)) Via.refl e73 f63 (g := (mkF m 80 #[uR a1, uL q2, uS, uI 2] [(.ref a1), (.int 0), (.ref aM), (.int 2), (.ref aM)])) rfl rfl (hb hby d3_80)
  obtain ⟨T75, h75, L75, X75, e75, N75, Kc75, V75, st75⟩ := cpA X74 hx hZ hown (own_w hw (i := 41) rfl) (own_w hw (i := 44) rfl) (own_w hw (i := 42) rfl) (own_w hw (i := 43) rfl) e74 f65 f65 (sp := (2 : Int32)) (dp := (0 : Int32)) (nn := (2 : Int32)) (us := [(.long x2), (.long x3)]) (Or.inl ⟨rfl, rfl⟩) (by decide) (by decide) (by decide) (by decide) (by decide) rfl (Nat.le_of_ble_eq_true rfl) N58 g_aM (g := (mkF m 83 #[uR a1, uL q2, uS, uI 2] [(.int 2), (.int 0), (.ref aM), (.int 2), (.ref aM)])) rfl (by rw [hml]; rfl) rfl (hb hby d3_83) (by decide) (W := 0) (by show 2 * 0 + _ ≤ _; exact Nat.le_of_eq rfl) (by decide)
  have Kd75 : Keep h58 h75 [aM] := Kc75
  have f76 := f59.keep Kd75
  have f77 := f60.keep Kd75 (ninS ne_a1_aM nin0)
  have f78 := f61.keep Kd75 (ninS ne_a1_aM nin0)
  have f79 := f62.keep Kd75 (ninS ne_a1_aM nin0)
  have f80 := f63.keep Kd75 (ninS ne_a1_aM nin0)
  have f81 := f64.keep Kd75 (ninS ne_a1_aM nin0)
  have f82 := f66.keep Kd75
  have f83 := f67.keep Kd75
  have f84 := f68.keep Kd75
  have f85 := f69.keep Kd75 (ninS ne_aB_aM nin0)
  have f86 := Vx58.keep Kd75 (ninS ne_aP_aM nin0)
  have zs87 : n0 ≤ h75.size := Nat.le_trans zs70 Kd75.1
  have K88 := K71.trans Kd75 (allS (Or.inl (List.mem_of_getElem? (i := 3) rfl)) all0)
  have Vx75 : Arv Z h75 aM kM .long (8 : Int32) [(.long x2), (.long x3), (.long x2), (.long x3), (.long x4), (.long x5), (.long x6), (.long x7)] (.long 0) := V75
  obtain ⟨T89, X89, e89, st89⟩ := getF X75 hx hZ hown (host := "") (Or.inl (own_w hw (i := 27) rfl)) Via.refl e75 f80 (g := (mkF m 88 #[uR a1, uL q2, uS, uI 2] [(.ref a1), (.ref a1)])) rfl rfl (hb hby d3_88)
  -- pc 95: Math.max by rmmx2
  obtain ⟨_, _, ⟨T90, L90, ck90, cn90⟩, -, X90, ⟨Lc90, hQ90, l90, y90, z90⟩, st90⟩ := Jvm.LawKit.callS X89 hx (y := (⟨"java/lang/Math", "max", "(II)I"⟩ : MethodName)) hown (mvT hZ (own_w hw (i := 45) rfl)) (mvT hZ (own_w hw (i := 46) rfl)) (mvT hZ (own_w hw (i := 47) rfl)) (mvT hZ (own_w hw (i := 48) rfl)) (by decide) (backOf (W := 1) (rmmx2 l Z a0 hw [] (4 : Int32) (8 : Int32) h75 n0 zs87 (by decide)) hZ (own_w hw (i := 48) rfl) (own_w hw (i := 47) rfl) (by decide) (by decide)) (g := (mkF m 95 #[uR a1, uL q2, uS, uI 2] [(.int 8), (.int 4), (.ref a1)])) rfl (by rw [hml]; rfl) (argsL := [(.int 4), (.int 8)]) (rest := [(.ref a1)]) (lenOf pd_47 rfl) rfl (by show 2 * 0 + _ ≤ _; exact Nat.le_of_eq rfl) (hb hby d3_95) (fun _ _ => ⟨rfl, e89, (by decide : 0 + 0 ≤ _), (by decide : 0 + 0 ≤ _)⟩)
  dsimp only [Pt.U, Pt.locs, Pt.cells, Pt.slots] at X90 l90 y90 z90 st90 hQ90
  subst y90 z90
  obtain ⟨rfl, N90q, e90⟩ := hQ90
  have N91 : Fr n0 L90 := by rw [l90]; exact Fr.app N75 N90q
  -- pc 98: BatchIndex.resize by rmrz8
  obtain ⟨cq92, qc92, qc92'⟩ := f76.cell
  obtain ⟨_, _, ⟨T92, L92, ck92, cn92⟩, -, X92, ⟨Lc92, hQ92, l92, y92, z92⟩, st92⟩ := X90.privateBack hx (y := (⟨KC, "resize", "(I)V"⟩ : MethodName)) hown (mvT hZ (own_w hw (i := 49) rfl)) (mvT hZ (own_w hw (i := 50) rfl)) (own_sel (y := (⟨KC, "resize", "(I)V"⟩ : MethodName)) (mvT hZ (own_w hw (i := 1) rfl)) (Cond.privateMethod_at (mvP hZ (own_w hw (i := 51) rfl) (args := #[]))) (mvT hZ (own_w hw (i := 50) rfl)) (by decide)) (Cond.privateMethod_at (mvP hZ (own_w hw (i := 51) rfl) (args := #[]))) (mvT hZ (own_w hw (i := 52) rfl)) (by decide) (backOf (W := 0) (rmrz8 l Z a0 hw [] a1 aB aP aM kB kP kM (2 : Int32) (2 : Int64) b2 b3 b2 b3 b4 b5 b6 b7 (30 : Int64) (40 : Int64) (30 : Int64) (40 : Int64) (0 : Int64) (0 : Int64) (0 : Int64) (0 : Int64) x2 x3 x2 x3 x4 x5 x6 x7 h75 n0 zs87 f76 f80 f81 f77 f78 f79 f85 f86 Vx75 f82 f83 f84 g_a1 ne_a1_aB ne_a1_aP ne_a1_aM ne_aB_aP ne_aB_aM ne_aP_aM) hZ (own_w hw (i := 52) rfl) (own_w hw (i := 2) rfl) (by decide) (by decide)) (g := (mkF m 98 #[uR a1, uL q2, uS, uI 2] [(.int 8), (.ref a1)])) rfl (by rw [hml]; rfl) (Steps.refl _) (a := a1) (by rw [e90]; exact qc92) qc92' (argsL := [(.int 8)]) (rest := []) (lenOf pd_114 rfl) rfl (by show 2 * 0 + _ ≤ _; exact Nat.le_of_eq rfl) (hb hby d3_98) (fun _ _ => ⟨rfl, e90, (by decide : 0 + 3 ≤ _), (by decide : 0 + 24 ≤ _)⟩)
  dsimp only [Pt.U, Pt.locs, Pt.cells, Pt.slots] at X92 l92 y92 z92 st92 hQ92
  subst y92 z92
  obtain ⟨n1_92, kn1_92, n2_92, kn2_92, n3_92, kn3_92, rfl, N92q, K92q, gq92_0, gq92_1, gq92_2, sq92_0, sq92_1, sq92_2, nq92_1_0, nq92_2_0, nq92_2_1, o92_0, o92_1, o92_2, o92_3, o92_4, o92_5, o92_6, o92_7, o92_8, o92_9, o92_10, o92_11⟩ := hQ92
  have N93 : Fr n0 L92 := by rw [l92]; exact Fr.app N91 N92q
  have sz_n1_92 : h0.size ≤ n1_92 := Nat.le_trans K88.1 sq92_0
  have sz_n2_92 : h0.size ≤ n2_92 := Nat.le_trans K88.1 sq92_1
  have sz_n3_92 : h0.size ≤ n3_92 := Nat.le_trans K88.1 sq92_2
  have K119 := K88.trans K92q (allS (Or.inl (List.mem_of_getElem? (i := 0) rfl)) all0)
  obtain ⟨fs, hr, hrun, hended, hW, hsame⟩ := X92.leave (v := none) (fun _ => rfl) Bd.notSynchronized
  refine ⟨_, _, pre0 _ ?_, hrun, hended, _, _, rfl, ?_, ⟨_, rfl⟩, hW, hsame.mono (by decide) (by decide)⟩
  · show Steps p.tables e below (s₁.setTop (mkF m 0 #[uR a1, uL q2, uS, uU] [])) _
    refine XS.aloadN X0.here hx rfl (hb hby d3_0) rfl rfl ?_
    refine XS.aloadN X0.here hx rfl (hb hby d3_1) rfl rfl ?_
    refine st1 _ ?_
    refine XS.lloadN X1.here hx rfl (hb hby d3_5) rfl ?_
    refine XS.lconst X1.here hx rfl (hb hby d3_6) ?_
    refine XS.lsub X1.here hx rfl (hb hby d3_7) rfl ?_
    refine st2.trans ?_
    refine XS.iconst X2.here hx rfl (hb hby d3_11) ?_
    refine XS.iadd X2.here hx rfl (hb hby d3_12) rfl ?_
    refine XS.istoreN X2.here hx rfl (hb hby d3_13) rfl (l' := #[uR a1, uL q2, uS, uI 2]) rfl ?_
    refine XS.aloadN X2.here hx rfl (hb hby d3_14) rfl rfl ?_
    refine XS.dup X2.here hx rfl (hb hby d3_15) rfl rfl ?_
    refine st4 _ ?_
    refine XS.iloadN X4.here hx rfl (hb hby d3_19) rfl ?_
    refine XS.isub X4.here hx rfl (hb hby d3_20) rfl ?_
    refine st5 _ ?_
    show Steps p.tables e below (T5.setTop (mkF m 24 #[uR a1, uL q2, uS, uI 2] [])) _
    refine XS.aloadN X5.here hx rfl (hb hby d3_24) rfl rfl ?_
    refine XS.dup X5.here hx rfl (hb hby d3_25) rfl rfl ?_
    refine st21 _ ?_
    refine XS.iloadN X21.here hx rfl (hb hby d3_29) rfl ?_
    refine XS.i2l X21.here hx rfl (hb hby d3_30) rfl ?_
    refine XS.ladd X21.here hx rfl (hb hby d3_31) rfl ?_
    refine st22 _ ?_
    refine XS.aloadN X22.here hx rfl (hb hby d3_35) rfl rfl ?_
    refine st38 _ ?_
    refine XS.iloadN X38.here hx rfl (hb hby d3_39) rfl ?_
    refine XS.aloadN X38.here hx rfl (hb hby d3_40) rfl rfl ?_
    refine st39 _ ?_
    refine XS.iconst X39.here hx rfl (hb hby d3_44) ?_
    refine XS.aloadN X39.here hx rfl (hb hby d3_45) rfl rfl ?_
    refine st40 _ ?_
    refine st41 _ ?_
    show Steps p.tables e below (T41.setTop (mkF m 52 #[uR a1, uL q2, uS, uI 2] [])) _
    refine XS.aloadN X41.here hx rfl (hb hby d3_52) rfl rfl ?_
    refine st55 _ ?_
    refine XS.iloadN X55.here hx rfl (hb hby d3_56) rfl ?_
    refine XS.aloadN X55.here hx rfl (hb hby d3_57) rfl rfl ?_
    refine st56 _ ?_
    refine XS.iconst X56.here hx rfl (hb hby d3_61) ?_
    refine XS.aloadN X56.here hx rfl (hb hby d3_62) rfl rfl ?_
    refine st57 _ ?_
    refine st58 _ ?_
    refine XS.aloadN X58.here hx rfl (hb hby d3_69) rfl rfl ?_
    refine st72 _ ?_
    refine XS.iloadN X72.here hx rfl (hb hby d3_73) rfl ?_
    refine XS.aloadN X72.here hx rfl (hb hby d3_74) rfl rfl ?_
    refine st73 _ ?_
    refine XS.iconst X73.here hx rfl (hb hby d3_78) ?_
    refine XS.aloadN X73.here hx rfl (hb hby d3_79) rfl rfl ?_
    show Steps p.tables e below (T73.setTop (mkF m 80 #[uR a1, uL q2, uS, uI 2] [(.ref a1), (.int 0), (.ref aM), (.int 2), (.ref aM)])) _
    refine st74 _ ?_
    refine st75 _ ?_
    refine XS.aloadN X75.here hx rfl (hb hby d3_86) rfl rfl ?_
    refine XS.aloadN X75.here hx rfl (hb hby d3_87) rfl rfl ?_
    refine st89 _ ?_
    refine XS.iconst X89.here hx rfl (hb hby d3_91) ?_
    refine XS.imul X89.here hx rfl (hb hby d3_92) rfl ?_
    refine XS.bipush X89.here hx rfl (hb hby d3_93) ?_
    refine st90 _ ?_
    refine st92.trans ?_
    exact X92.returnOut hx Bd.returns (hb hby d3_101) hr
  · show Qdr42 Z a1 q2 aB aP aM kB kP kM b0 b1 b2 b3 b4 b5 b6 b7 x0 x1 x2 x3 x4 x5 x6 x7 h0 n0 _ T92.heap _
    exact ⟨n1_92, kn1_92, n2_92, kn2_92, n3_92, kn3_92, rfl, N93, K119, gq92_0, gq92_1, gq92_2, sz_n1_92, sz_n2_92, sz_n3_92, nq92_1_0, nq92_2_0, nq92_2_1, o92_0, o92_4, o92_5, o92_3, o92_10⟩
theorem ef_dr43 (m : MethodId) (x0 : Addr) (x1 : Int64) : entryFrame m #[(.ref x0), (.long x1)] 4 = mkF m 0 #[.val (.ref x0), .val (.long x1), .second, .unset] [] := by first | (simp [entryFrame, mkF, argsToLocals, Value.category]; done) | rfl
abbrev R_dr43 : Room := { frames := 3, cells := 3, slots := 24, locals := 56 }
def Qdr43 (Z : State) (a1 : Addr) (q2 : Int64) (aB : Addr) (aP : Addr) (aM : Addr) (kB : ClassId) (kP : ClassId) (kM : ClassId) (b0 : Int64) (b1 : Int64) (b2 : Int64) (b3 : Int64) (b4 : Int64) (b5 : Int64) (b6 : Int64) (b7 : Int64) (x0 : Int64) (x1 : Int64) (x2 : Int64) (x3 : Int64) (x4 : Int64) (x5 : Int64) (x6 : Int64) (x7 : Int64) (h0 : Heap) (n0 : Nat) (v : Option Value) (h : Heap) (L : List Loc) : Prop := ∃ (n1 : Addr) (kn1 : ClassId) (n2 : Addr) (kn2 : ClassId) (n3 : Addr) (kn3 : ClassId), v = none ∧ Fr n0 L ∧ Keep h0 h [a1, aB, aP, aM] ∧ n0 ≤ n1 ∧ n0 ≤ n2 ∧ n0 ≤ n3 ∧ h0.size ≤ n1 ∧ h0.size ≤ n2 ∧ h0.size ≤ n3 ∧ n2 ≠ n1 ∧ n3 ≠ n1 ∧ n3 ≠ n2 ∧ Exa Z h a1 KC ∧ Fld Z h a1 KC "count" "I" (.int 1) ∧ Fld Z h a1 KC "first" "J" (.long 3) ∧ Fld Z h a1 KC KM "[J" (.ref n3) ∧ Arv Z h n3 kn3 .long (8 : Int32) [(.long x3), (.long x1), (.long x2), (.long x3), (.long x4), (.long x5), (.long x6), (.long x7)] (.long 0)
set_option maxRecDepth 65536 in
set_option maxHeartbeats 40000000 in
theorem rmdr43 (l : Launch) (Z : State) (a0 : Array Value) (hw : ∀ d ∈ tables_1, d.before a0 Z = true) (ws : List Jvm.Cond) (a1 : Addr) (q2 : Int64) (aB : Addr) (aP : Addr) (aM : Addr) (kB : ClassId) (kP : ClassId) (kM : ClassId) (b0 : Int64) (b1 : Int64) (b2 : Int64) (b3 : Int64) (b4 : Int64) (b5 : Int64) (b6 : Int64) (b7 : Int64) (x0 : Int64) (x1 : Int64) (x2 : Int64) (x3 : Int64) (x4 : Int64) (x5 : Int64) (x6 : Int64) (x7 : Int64) (h0 : Heap) (n0 : Nat) (Z0 : n0 ≤ h0.size) (E_a1 : Exa Z h0 a1 KC) (F_baseOffsets_a1 : Fld Z h0 a1 KC KB "[J" (.ref aB)) (F_positions_a1 : Fld Z h0 a1 KC KP "[J" (.ref aP)) (F_maxTimestampsSoFar_a1 : Fld Z h0 a1 KC KM "[J" (.ref aM)) (F_count_a1 : Fld Z h0 a1 KC "count" "I" (.int 4)) (F_first_a1 : Fld Z h0 a1 KC "first" "J" (.long 0)) (V_aB : Arv Z h0 aB kB .long (8 : Int32) [(.long b0), (.long b1), (.long b2), (.long b3), (.long b4), (.long b5), (.long b6), (.long b7)] (.long 0)) (V_aP : Arv Z h0 aP kP .long (8 : Int32) [(.long 10), (.long 20), (.long 30), (.long 40), (.long 0), (.long 0), (.long 0), (.long 0)] (.long 0)) (V_aM : Arv Z h0 aM kM .long (8 : Int32) [(.long x0), (.long x1), (.long x2), (.long x3), (.long x4), (.long x5), (.long x6), (.long x7)] (.long 0)) (E_aB : Exa Z h0 aB "[J") (E_aP : Exa Z h0 aP "[J") (E_aM : Exa Z h0 aM "[J") (g_a1 : n0 ≤ a1) (g_aB : n0 ≤ aB) (g_aP : n0 ≤ aP) (g_aM : n0 ≤ aM) (ne_a1_aB : a1 ≠ aB) (ne_a1_aP : a1 ≠ aP) (ne_a1_aM : a1 ≠ aM) (ne_aB_aP : aB ≠ aP) (ne_aB_aM : aB ≠ aM) (ne_aP_aM : aP ≠ aM) (hk : (fla_4 (q2 - (1 : Int64))) = (2 : Int32)) :
    MetFree l (⟨KC, "dropBefore", "(J)V"⟩ : MethodName) (head1 (Jvm.Cond.code (⟨KC, "dropBefore", "(J)V"⟩ : MethodName) prog_126_method_11_code 4 none :: ws) R_dr43) (fun a U => a = #[(.ref a1), (.long q2)] ∧ Z.Warmed39 U.vm ∧ U.heap = h0) (fun _ _ _ _ _ => True) (fun _ U o U' => ∃ v L, o = .returned v ∧ Qdr43 Z a1 q2 aB aP aM kB kP kM b0 b1 b2 b3 b4 b5 b6 b7 x0 x1 x2 x3 x4 x5 x6 x7 h0 n0 v U'.heap L ∧ FrameEnd U o U' L R_dr43.cells R_dr43.slots) := by
  refine MetFree.of_bodySF (plainFor_of_name pn_55) hisR ?_
  intro p e s m args below meth c s₁ Bd hml0 hP hK
  obtain ⟨rfl, hZ, hh⟩ := hP
  have hx := Bd.exec
  have hby := Bd.bytes
  have hml : c.maxLocals = 4 := hml0
  have hown : s.vm.findClass KC = some m.cls := findClass_of_methodNamed Bd.named
  have hnm := (name_of_methodNamed Bd.named Bd.method).1
  have X0 : Stand p l e R_dr43 s m #[(.ref a1), (.long q2)] below meth c s₁ [] 0 0 := Stand.of_body Bd
  have e0 : s₁.heap = h0 := by rw [← hh, Bd.state]; rfl
  have N0 := Fr.nil n0
  have pre0 : ∀ t, Steps p.tables e below (s₁.setTop (mkF m 0 #[uR a1, uL q2, uS, uU] [])) t → Steps p.tables e below (s₁.setTop (entryFrame m #[(.ref a1), (.long q2)] 4)) t := fun t k => castTop (ef_dr43 m a1 q2) k
  obtain ⟨T1, X1, e1, st1⟩ := getF X0 hx hZ hown (host := "") (Or.inl (own_w hw (i := 13) rfl)) Via.refl e0 F_positions_a1 (g := (mkF m 2 #[uR a1, uL q2, uS, uU] [(.ref a1), (.ref a1)])) rfl rfl (hb hby d3_2)
  -- pc 8: BatchIndex.lastAtOrBefore by rmla_4
  obtain ⟨cq2, qc2, qc2'⟩ := E_a1.cell
  obtain ⟨_, _, ⟨T2, L2, ck2, cn2⟩, -, X2, ⟨Lc2, hQ2, l2, y2, z2⟩, st2⟩ := X1.privateBack hx (y := (⟨KC, "lastAtOrBefore", "([JJ)I"⟩ : MethodName)) hown (mvT hZ (own_w hw (i := 23) rfl)) (mvT hZ (own_w hw (i := 24) rfl)) (own_sel (y := (⟨KC, "lastAtOrBefore", "([JJ)I"⟩ : MethodName)) (mvT hZ (own_w hw (i := 1) rfl)) (Cond.privateMethod_at (mvP hZ (own_w hw (i := 25) rfl) (args := #[]))) (mvT hZ (own_w hw (i := 24) rfl)) (by decide)) (Cond.privateMethod_at (mvP hZ (own_w hw (i := 25) rfl) (args := #[]))) (mvT hZ (own_w hw (i := 26) rfl)) (by decide) (backOf (W := 0) (rmla_4 l Z a0 hw [] a1 aP (q2 - (1 : Int64)) kP (2 : Int32) h0 n0 Z0 F_count_a1 V_aP hk) hZ (own_w hw (i := 26) rfl) (own_w hw (i := 2) rfl) (by decide) (by decide)) (g := (mkF m 8 #[uR a1, uL q2, uS, uU] [(.long (q2 - (1 : Int64))), (.ref aP), (.ref a1)])) rfl (by rw [hml]; rfl) (Steps.refl _) (a := a1) (by rw [e1]; exact qc2) qc2' (argsL := [(.ref aP), (.long (q2 - (1 : Int64)))]) (rest := []) (lenOf pd_239 rfl) rfl (by show 2 * 0 + _ ≤ _; exact Nat.le_of_eq rfl) (hb hby d3_8) (fun _ _ => ⟨rfl, e1, (by decide : 0 + 0 ≤ _), (by decide : 0 + 0 ≤ _)⟩)
  dsimp only [Pt.U, Pt.locs, Pt.cells, Pt.slots] at X2 l2 y2 z2 st2 hQ2
  subst y2 z2
  obtain ⟨rfl, N2q, e2⟩ := hQ2
  have N3 : Fr n0 L2 := by rw [l2]; exact Fr.app N0 N2q
  obtain ⟨T4, X4, e4, st4⟩ := getF X2 hx hZ hown (host := "") (Or.inl (own_w hw (i := 27) rfl)) Via.refl e2 F_count_a1 (g := (mkF m 16 #[uR a1, uL q2, uS, uI 3] [(.ref a1), (.ref a1)])) rfl rfl (hb hby d3_16)
  obtain ⟨T5, h5, X5, e5, W5, st5⟩ := putF X4 hx hZ hown (host := "") (Or.inl (own_w hw (i := 27) rfl)) Via.refl e4 F_count_a1 E_a1 (Or.inl (own_w hw (i := 28) rfl)) (own_w hw (i := 1) rfl) (ty := .int) (by decide) rfl rfl (g := (mkF m 21 #[uR a1, uL q2, uS, uI 3] [(.int 1), (.ref a1)])) rfl rfl (hb hby d3_21)
  have f6 := E_a1.wr W5
  have f7 := F_baseOffsets_a1.other W5 (Or.inr (sn_143 hw))
  have f8 := F_positions_a1.other W5 (Or.inr (sn_144 hw))
  have f9 := F_maxTimestampsSoFar_a1.other W5 (Or.inr (sn_145 hw))
  have f10 := F_count_a1.same W5
  have f11 := F_first_a1.other W5 (Or.inr (sn_146 hw))
  have f12 := V_aB.other W5 (Ne.symm ne_a1_aB)
  have f13 := V_aP.other W5 (Ne.symm ne_a1_aP)
  have f14 := V_aM.other W5 (Ne.symm ne_a1_aM)
  have f15 := E_aB.wr W5
  have f16 := E_aP.wr W5
  have f17 := E_aM.wr W5
  have K18 := (Keep.refl h0 [a1, aB, aP, aM]).wr W5 (Or.inl (List.mem_of_getElem? (i := 0) rfl))
  have zs19 : n0 ≤ h5.size := Nat.le_trans Z0 (Keep.of_wr W5).1
  have N20 := Fr.snoc X5 N3 g_a1
  obtain ⟨T21, X21, e21, st21⟩ := getF X5 hx hZ hown (host := "") (Or.inl (own_w hw (i := 39) rfl)) Via.refl e5 f11 (g := (mkF m 26 #[uR a1, uL q2, uS, uI 3] [(.ref a1), (.ref a1)])) rfl rfl (hb hby d3_26)
  obtain ⟨T22, h22, X22, e22, W22, st22⟩ := putF X21 hx hZ hown (host := "") (Or.inl (own_w hw (i := 39) rfl)) Via.refl e21 f11 f6 (Or.inl (own_w hw (i := 40) rfl)) (own_w hw (i := 1) rfl) (ty := .long) (by decide) rfl rfl (g := (mkF m 32 #[uR a1, uL q2, uS, uI 3] [(.long 3), (.ref a1)])) rfl rfl (hb hby d3_32)
  have f23 := f6.wr W22
  have f24 := f7.other W22 (Or.inr (sn_256 hw))
  have f25 := f8.other W22 (Or.inr (sn_257 hw))
  have f26 := f9.other W22 (Or.inr (sn_258 hw))
  have f27 := f10.other W22 (Or.inr (sn_259 hw))
  have f28 := f11.same W22
  have f29 := f12.other W22 (Ne.symm ne_a1_aB)
  have f30 := f13.other W22 (Ne.symm ne_a1_aP)
  have f31 := f14.other W22 (Ne.symm ne_a1_aM)
  have f32 := f15.wr W22
  have f33 := f16.wr W22
  have f34 := f17.wr W22
  have K35 := K18.wr W22 (Or.inl (List.mem_of_getElem? (i := 0) rfl))
  have zs36 : n0 ≤ h22.size := Nat.le_trans zs19 (Keep.of_wr W22).1
  have N37 := Fr.snoc X22 N20 g_a1
  obtain ⟨T38, X38, e38, st38⟩ := getF X22 hx hZ hown (host := "") (Or.inl (own_w hw (i := 11) rfl)) Via.refl e22 f24 (g := (mkF m 36 #[uR a1, uL q2, uS, uI 3] [(.ref a1)])) rfl rfl (hb hby d3_36)
  obtain ⟨T39, X39, e39, st39⟩ := getF X38 hx hZ hown (host := "") (Or.inl (own_w hw (i := 11) rfl)) Via.refl e38 f24 (g := (mkF m 41 #[uR a1, uL q2, uS, uI 3] [(.ref a1), (.int 3), (.ref aB)])) rfl rfl (hb hby d3_41)
  obtain ⟨T40, X40, e40, st40⟩ := getF X39 hx hZ hown (host := "") (Or.inl (own_w hw (i := 27) rfl)) Via.refl e39 f27 (g := (mkF m 46 #[uR a1, uL q2, uS, uI 3] [(.ref a1), (.int 0), (.ref aB), (.int 3), (.ref aB)])) rfl rfl (hb hby d3_46)
  obtain ⟨T41, h41, L41, X41, e41, N41, Kc41, V41, st41⟩ := cpA X40 hx hZ hown (own_w hw (i := 41) rfl) (own_w hw (i := 44) rfl) (own_w hw (i := 42) rfl) (own_w hw (i := 43) rfl) e40 f29 f29 (sp := (3 : Int32)) (dp := (0 : Int32)) (nn := (1 : Int32)) (us := [(.long b3)]) (Or.inl ⟨rfl, rfl⟩) (by decide) (by decide) (by decide) (by decide) (by decide) rfl (Nat.le_of_ble_eq_true rfl) N37 g_aB (g := (mkF m 49 #[uR a1, uL q2, uS, uI 3] [(.int 1), (.int 0), (.ref aB), (.int 3), (.ref aB)])) rfl (by rw [hml]; rfl) rfl (hb hby d3_49) (by decide) (W := 0) (by show 2 * 0 + _ ≤ _; exact Nat.le_of_eq rfl) (by decide)
  have Kd41 : Keep h22 h41 [aB] := Kc41
  have f42 := f23.keep Kd41
  have f43 := f24.keep Kd41 (ninS ne_a1_aB nin0)
  have f44 := f25.keep Kd41 (ninS ne_a1_aB nin0)
  have f45 := f26.keep Kd41 (ninS ne_a1_aB nin0)
  have f46 := f27.keep Kd41 (ninS ne_a1_aB nin0)
  have f47 := f28.keep Kd41 (ninS ne_a1_aB nin0)
  have f48 := f30.keep Kd41 (ninS (Ne.symm ne_aB_aP) nin0)
  have f49 := f31.keep Kd41 (ninS (Ne.symm ne_aB_aM) nin0)
  have f50 := f32.keep Kd41
  have f51 := f33.keep Kd41
  have f52 := f34.keep Kd41
  have zs53 : n0 ≤ h41.size := Nat.le_trans zs36 Kd41.1
  have K54 := K35.trans Kd41 (allS (Or.inl (List.mem_of_getElem? (i := 1) rfl)) all0)
  have Vx41 : Arv Z h41 aB kB .long (8 : Int32) [(.long b3), (.long b1), (.long b2), (.long b3), (.long b4), (.long b5), (.long b6), (.long b7)] (.long 0) := V41
  obtain ⟨T55, X55, e55, st55⟩ := getF X41 hx hZ hown (host := "") (Or.inl (own_w hw (i := 13) rfl)) Via.refl e41 f44 (g := (mkF m 53 #[uR a1, uL q2, uS, uI 3] [(.ref a1)])) rfl rfl (hb hby d3_53)
  obtain ⟨T56, X56, e56, st56⟩ := getF X55 hx hZ hown (host := "") (Or.inl (own_w hw (i := 13) rfl)) Via.refl e55 f44 (g := (mkF m 58 #[uR a1, uL q2, uS, uI 3] [(.ref a1), (.int 3), (.ref aP)])) rfl rfl (hb hby d3_58)
  obtain ⟨T57, X57, e57, st57⟩ := getF X56 hx hZ hown (host := "") (Or.inl (own_w hw (i := 27) rfl)) Via.refl e56 f46 (g := (mkF m 63 #[uR a1, uL q2, uS, uI 3] [(.ref a1), (.int 0), (.ref aP), (.int 3), (.ref aP)])) rfl rfl (hb hby d3_63)
  obtain ⟨T58, h58, L58, X58, e58, N58, Kc58, V58, st58⟩ := cpA X57 hx hZ hown (own_w hw (i := 41) rfl) (own_w hw (i := 44) rfl) (own_w hw (i := 42) rfl) (own_w hw (i := 43) rfl) e57 f48 f48 (sp := (3 : Int32)) (dp := (0 : Int32)) (nn := (1 : Int32)) (us := [(.long 40)]) (Or.inl ⟨rfl, rfl⟩) (by decide) (by decide) (by decide) (by decide) (by decide) rfl (Nat.le_of_ble_eq_true rfl) N41 g_aP (g := (mkF m 66 #[uR a1, uL q2, uS, uI 3] [(.int 1), (.int 0), (.ref aP), (.int 3), (.ref aP)])) rfl (by rw [hml]; rfl) rfl (hb hby d3_66) (by decide) (W := 0) (by show 2 * 0 + _ ≤ _; exact Nat.le_of_eq rfl) (by decide)
  have Kd58 : Keep h41 h58 [aP] := Kc58
  have f59 := f42.keep Kd58
  have f60 := f43.keep Kd58 (ninS ne_a1_aP nin0)
  have f61 := f44.keep Kd58 (ninS ne_a1_aP nin0)
  have f62 := f45.keep Kd58 (ninS ne_a1_aP nin0)
  have f63 := f46.keep Kd58 (ninS ne_a1_aP nin0)
  have f64 := f47.keep Kd58 (ninS ne_a1_aP nin0)
  have f65 := f49.keep Kd58 (ninS (Ne.symm ne_aP_aM) nin0)
  have f66 := f50.keep Kd58
  have f67 := f51.keep Kd58
  have f68 := f52.keep Kd58
  have f69 := Vx41.keep Kd58 (ninS ne_aB_aP nin0)
  have zs70 : n0 ≤ h58.size := Nat.le_trans zs53 Kd58.1
  have K71 := K54.trans Kd58 (allS (Or.inl (List.mem_of_getElem? (i := 2) rfl)) all0)
  have Vx58 : Arv Z h58 aP kP .long (8 : Int32) [(.long 40), (.long 20), (.long 30), (.long 40), (.long 0), (.long 0), (.long 0), (.long 0)] (.long 0) := V58
  obtain ⟨T72, X72, e72, st72⟩ := getF X58 hx hZ hown (host := "") (Or.inl (own_w hw (i := 15) rfl)) Via.refl e58 f62 (g := (mkF m 70 #[uR a1, uL q2, uS, uI 3] [(.ref a1)])) rfl rfl (hb hby d3_70)
  obtain ⟨T73, X73, e73, st73⟩ := getF X72 hx hZ hown (host := "") (Or.inl (own_w hw (i := 15) rfl)) Via.refl e72 f62 (g := (mkF m 75 #[uR a1, uL q2, uS, uI 3] [(.ref a1), (.int 3), (.ref aM)])) rfl rfl (hb hby d3_75)
  obtain ⟨T74, X74, e74, st74⟩ := getF X73 hx hZ hown (host := "") (Or.inl (own_w hw (i := 27) rfl)) Via.refl e73 f63 (g := (mkF m 80 #[uR a1, uL q2, uS, uI 3] [(.ref a1), (.int 0), (.ref aM), (.int 3), (.ref aM)])) rfl rfl (hb hby d3_80)
  obtain ⟨T75, h75, L75, X75, e75, N75, Kc75, V75, st75⟩ := cpA X74 hx hZ hown (own_w hw (i := 41) rfl) (own_w hw (i := 44) rfl) (own_w hw (i := 42) rfl) (own_w hw (i := 43) rfl) e74 f65 f65 (sp := (3 : Int32)) (dp := (0 : Int32)) (nn := (1 : Int32)) (us := [(.long x3)]) (Or.inl ⟨rfl, rfl⟩) (by decide) (by decide) (by decide) (by decide) (by decide) rfl (Nat.le_of_ble_eq_true rfl) N58 g_aM (g := (mkF m 83 #[uR a1, uL q2, uS, uI 3] [(.int 1), (.int 0), (.ref aM), (.int 3), (.ref aM)])) rfl (by rw [hml]; rfl) rfl (hb hby d3_83) (by decide) (W := 0) (by show 2 * 0 + _ ≤ _; exact Nat.le_of_eq rfl) (by decide)
  have Kd75 : Keep h58 h75 [aM] := Kc75
  have f76 := f59.keep Kd75
  have f77 := f60.keep Kd75 (ninS ne_a1_aM nin0)
  have f78 := f61.keep Kd75 (ninS ne_a1_aM nin0)
  have f79 := f62.keep Kd75 (ninS ne_a1_aM nin0)
  have f80 := f63.keep Kd75 (ninS ne_a1_aM nin0)
  have f81 := f64.keep Kd75 (ninS ne_a1_aM nin0)
  have f82 := f66.keep Kd75
  have f83 := f67.keep Kd75
  have f84 := f68.keep Kd75
  have f85 := f69.keep Kd75 (ninS ne_aB_aM nin0)
  have f86 := Vx58.keep Kd75 (ninS ne_aP_aM nin0)
  have zs87 : n0 ≤ h75.size := Nat.le_trans zs70 Kd75.1
  have K88 := K71.trans Kd75 (allS (Or.inl (List.mem_of_getElem? (i := 3) rfl)) all0)
  have Vx75 : Arv Z h75 aM kM .long (8 : Int32) [(.long x3), (.long x1), (.long x2), (.long x3), (.long x4), (.long x5), (.long x6), (.long x7)] (.long 0) := V75
  obtain ⟨T89, X89, e89, st89⟩ := getF X75 hx hZ hown (host := "") (Or.inl (own_w hw (i := 27) rfl)) Via.refl e75 f80 (g := (mkF m 88 #[uR a1, uL q2, uS, uI 3] [(.ref a1), (.ref a1)])) rfl rfl (hb hby d3_88)
  -- pc 95: Math.max by rmmx2
  obtain ⟨_, _, ⟨T90, L90, ck90, cn90⟩, -, X90, ⟨Lc90, hQ90, l90, y90, z90⟩, st90⟩ := Jvm.LawKit.callS X89 hx (y := (⟨"java/lang/Math", "max", "(II)I"⟩ : MethodName)) hown (mvT hZ (own_w hw (i := 45) rfl)) (mvT hZ (own_w hw (i := 46) rfl)) (mvT hZ (own_w hw (i := 47) rfl)) (mvT hZ (own_w hw (i := 48) rfl)) (by decide) (backOf (W := 1) (rmmx2 l Z a0 hw [] (2 : Int32) (8 : Int32) h75 n0 zs87 (by decide)) hZ (own_w hw (i := 48) rfl) (own_w hw (i := 47) rfl) (by decide) (by decide)) (g := (mkF m 95 #[uR a1, uL q2, uS, uI 3] [(.int 8), (.int 2), (.ref a1)])) rfl (by rw [hml]; rfl) (argsL := [(.int 2), (.int 8)]) (rest := [(.ref a1)]) (lenOf pd_47 rfl) rfl (by show 2 * 0 + _ ≤ _; exact Nat.le_of_eq rfl) (hb hby d3_95) (fun _ _ => ⟨rfl, e89, (by decide : 0 + 0 ≤ _), (by decide : 0 + 0 ≤ _)⟩)
  dsimp only [Pt.U, Pt.locs, Pt.cells, Pt.slots] at X90 l90 y90 z90 st90 hQ90
  subst y90 z90
  obtain ⟨rfl, N90q, e90⟩ := hQ90
  have N91 : Fr n0 L90 := by rw [l90]; exact Fr.app N75 N90q
  -- pc 98: BatchIndex.resize by rmrz8
  obtain ⟨cq92, qc92, qc92'⟩ := f76.cell
  obtain ⟨_, _, ⟨T92, L92, ck92, cn92⟩, -, X92, ⟨Lc92, hQ92, l92, y92, z92⟩, st92⟩ := X90.privateBack hx (y := (⟨KC, "resize", "(I)V"⟩ : MethodName)) hown (mvT hZ (own_w hw (i := 49) rfl)) (mvT hZ (own_w hw (i := 50) rfl)) (own_sel (y := (⟨KC, "resize", "(I)V"⟩ : MethodName)) (mvT hZ (own_w hw (i := 1) rfl)) (Cond.privateMethod_at (mvP hZ (own_w hw (i := 51) rfl) (args := #[]))) (mvT hZ (own_w hw (i := 50) rfl)) (by decide)) (Cond.privateMethod_at (mvP hZ (own_w hw (i := 51) rfl) (args := #[]))) (mvT hZ (own_w hw (i := 52) rfl)) (by decide) (backOf (W := 0) (rmrz8 l Z a0 hw [] a1 aB aP aM kB kP kM (1 : Int32) (3 : Int64) b3 b1 b2 b3 b4 b5 b6 b7 (40 : Int64) (20 : Int64) (30 : Int64) (40 : Int64) (0 : Int64) (0 : Int64) (0 : Int64) (0 : Int64) x3 x1 x2 x3 x4 x5 x6 x7 h75 n0 zs87 f76 f80 f81 f77 f78 f79 f85 f86 Vx75 f82 f83 f84 g_a1 ne_a1_aB ne_a1_aP ne_a1_aM ne_aB_aP ne_aB_aM ne_aP_aM) hZ (own_w hw (i := 52) rfl) (own_w hw (i := 2) rfl) (by decide) (by decide)) (g := (mkF m 98 #[uR a1, uL q2, uS, uI 3] [(.int 8), (.ref a1)])) rfl (by rw [hml]; rfl) (Steps.refl _) (a := a1) (by rw [e90]; exact qc92) qc92' (argsL := [(.int 8)]) (rest := []) (lenOf pd_114 rfl) rfl (by show 2 * 0 + _ ≤ _; exact Nat.le_of_eq rfl) (hb hby d3_98) (fun _ _ => ⟨rfl, e90, (by decide : 0 + 3 ≤ _), (by decide : 0 + 24 ≤ _)⟩)
  dsimp only [Pt.U, Pt.locs, Pt.cells, Pt.slots] at X92 l92 y92 z92 st92 hQ92
  subst y92 z92
  obtain ⟨n1_92, kn1_92, n2_92, kn2_92, n3_92, kn3_92, rfl, N92q, K92q, gq92_0, gq92_1, gq92_2, sq92_0, sq92_1, sq92_2, nq92_1_0, nq92_2_0, nq92_2_1, o92_0, o92_1, o92_2, o92_3, o92_4, o92_5, o92_6, o92_7, o92_8, o92_9, o92_10, o92_11⟩ := hQ92
  have N93 : Fr n0 L92 := by rw [l92]; exact Fr.app N91 N92q
  have sz_n1_92 : h0.size ≤ n1_92 := Nat.le_trans K88.1 sq92_0
  have sz_n2_92 : h0.size ≤ n2_92 := Nat.le_trans K88.1 sq92_1
  have sz_n3_92 : h0.size ≤ n3_92 := Nat.le_trans K88.1 sq92_2
  have K119 := K88.trans K92q (allS (Or.inl (List.mem_of_getElem? (i := 0) rfl)) all0)
  obtain ⟨fs, hr, hrun, hended, hW, hsame⟩ := X92.leave (v := none) (fun _ => rfl) Bd.notSynchronized
  refine ⟨_, _, pre0 _ ?_, hrun, hended, _, _, rfl, ?_, ⟨_, rfl⟩, hW, hsame.mono (by decide) (by decide)⟩
  · show Steps p.tables e below (s₁.setTop (mkF m 0 #[uR a1, uL q2, uS, uU] [])) _
    refine XS.aloadN X0.here hx rfl (hb hby d3_0) rfl rfl ?_
    refine XS.aloadN X0.here hx rfl (hb hby d3_1) rfl rfl ?_
    refine st1 _ ?_
    refine XS.lloadN X1.here hx rfl (hb hby d3_5) rfl ?_
    refine XS.lconst X1.here hx rfl (hb hby d3_6) ?_
    refine XS.lsub X1.here hx rfl (hb hby d3_7) rfl ?_
    refine st2.trans ?_
    refine XS.iconst X2.here hx rfl (hb hby d3_11) ?_
    refine XS.iadd X2.here hx rfl (hb hby d3_12) rfl ?_
    refine XS.istoreN X2.here hx rfl (hb hby d3_13) rfl (l' := #[uR a1, uL q2, uS, uI 3]) rfl ?_
    refine XS.aloadN X2.here hx rfl (hb hby d3_14) rfl rfl ?_
    refine XS.dup X2.here hx rfl (hb hby d3_15) rfl rfl ?_
    refine st4 _ ?_
    refine XS.iloadN X4.here hx rfl (hb hby d3_19) rfl ?_
    refine XS.isub X4.here hx rfl (hb hby d3_20) rfl ?_
    refine st5 _ ?_
    show Steps p.tables e below (T5.setTop (mkF m 24 #[uR a1, uL q2, uS, uI 3] [])) _
    refine XS.aloadN X5.here hx rfl (hb hby d3_24) rfl rfl ?_
    refine XS.dup X5.here hx rfl (hb hby d3_25) rfl rfl ?_
    refine st21 _ ?_
    refine XS.iloadN X21.here hx rfl (hb hby d3_29) rfl ?_
    refine XS.i2l X21.here hx rfl (hb hby d3_30) rfl ?_
    refine XS.ladd X21.here hx rfl (hb hby d3_31) rfl ?_
    refine st22 _ ?_
    refine XS.aloadN X22.here hx rfl (hb hby d3_35) rfl rfl ?_
    refine st38 _ ?_
    refine XS.iloadN X38.here hx rfl (hb hby d3_39) rfl ?_
    refine XS.aloadN X38.here hx rfl (hb hby d3_40) rfl rfl ?_
    refine st39 _ ?_
    refine XS.iconst X39.here hx rfl (hb hby d3_44) ?_
    refine XS.aloadN X39.here hx rfl (hb hby d3_45) rfl rfl ?_
    refine st40 _ ?_
    refine st41 _ ?_
    show Steps p.tables e below (T41.setTop (mkF m 52 #[uR a1, uL q2, uS, uI 3] [])) _
    refine XS.aloadN X41.here hx rfl (hb hby d3_52) rfl rfl ?_
    refine st55 _ ?_
    refine XS.iloadN X55.here hx rfl (hb hby d3_56) rfl ?_
    refine XS.aloadN X55.here hx rfl (hb hby d3_57) rfl rfl ?_
    refine st56 _ ?_
    refine XS.iconst X56.here hx rfl (hb hby d3_61) ?_
    refine XS.aloadN X56.here hx rfl (hb hby d3_62) rfl rfl ?_
    refine st57 _ ?_
    refine st58 _ ?_
    refine XS.aloadN X58.here hx rfl (hb hby d3_69) rfl rfl ?_
    refine st72 _ ?_
    refine XS.iloadN X72.here hx rfl (hb hby d3_73) rfl ?_
    refine XS.aloadN X72.here hx rfl (hb hby d3_74) rfl rfl ?_
    refine st73 _ ?_
    refine XS.iconst X73.here hx rfl (hb hby d3_78) ?_
    refine XS.aloadN X73.here hx rfl (hb hby d3_79) rfl rfl ?_
    show Steps p.tables e below (T73.setTop (mkF m 80 #[uR a1, uL q2, uS, uI 3] [(.ref a1), (.int 0), (.ref aM), (.int 3), (.ref aM)])) _
    refine st74 _ ?_
    refine st75 _ ?_
    refine XS.aloadN X75.here hx rfl (hb hby d3_86) rfl rfl ?_
    refine XS.aloadN X75.here hx rfl (hb hby d3_87) rfl rfl ?_
    refine st89 _ ?_
    refine XS.iconst X89.here hx rfl (hb hby d3_91) ?_
    refine XS.imul X89.here hx rfl (hb hby d3_92) rfl ?_
    refine XS.bipush X89.here hx rfl (hb hby d3_93) ?_
    refine st90 _ ?_
    refine st92.trans ?_
    exact X92.returnOut hx Bd.returns (hb hby d3_101) hr
  · show Qdr43 Z a1 q2 aB aP aM kB kP kM b0 b1 b2 b3 b4 b5 b6 b7 x0 x1 x2 x3 x4 x5 x6 x7 h0 n0 _ T92.heap _
    exact ⟨n1_92, kn1_92, n2_92, kn2_92, n3_92, kn3_92, rfl, N93, K119, gq92_0, gq92_1, gq92_2, sz_n1_92, sz_n2_92, sz_n3_92, nq92_1_0, nq92_2_0, nq92_2_1, o92_0, o92_4, o92_5, o92_3, o92_10⟩
theorem ef_dr44 (m : MethodId) (x0 : Addr) (x1 : Int64) : entryFrame m #[(.ref x0), (.long x1)] 4 = mkF m 0 #[.val (.ref x0), .val (.long x1), .second, .unset] [] := by first | (simp [entryFrame, mkF, argsToLocals, Value.category]; done) | rfl
abbrev R_dr44 : Room := { frames := 3, cells := 3, slots := 24, locals := 56 }
def Qdr44 (Z : State) (a1 : Addr) (q2 : Int64) (aB : Addr) (aP : Addr) (aM : Addr) (kB : ClassId) (kP : ClassId) (kM : ClassId) (b0 : Int64) (b1 : Int64) (b2 : Int64) (b3 : Int64) (b4 : Int64) (b5 : Int64) (b6 : Int64) (b7 : Int64) (x0 : Int64) (x1 : Int64) (x2 : Int64) (x3 : Int64) (x4 : Int64) (x5 : Int64) (x6 : Int64) (x7 : Int64) (h0 : Heap) (n0 : Nat) (v : Option Value) (h : Heap) (L : List Loc) : Prop := ∃ (n1 : Addr) (kn1 : ClassId) (n2 : Addr) (kn2 : ClassId) (n3 : Addr) (kn3 : ClassId), v = none ∧ Fr n0 L ∧ Keep h0 h [a1, aB, aP, aM] ∧ n0 ≤ n1 ∧ n0 ≤ n2 ∧ n0 ≤ n3 ∧ h0.size ≤ n1 ∧ h0.size ≤ n2 ∧ h0.size ≤ n3 ∧ n2 ≠ n1 ∧ n3 ≠ n1 ∧ n3 ≠ n2 ∧ Exa Z h a1 KC ∧ Fld Z h a1 KC "count" "I" (.int 0) ∧ Fld Z h a1 KC "first" "J" (.long 4) ∧ Fld Z h a1 KC KM "[J" (.ref n3) ∧ Arv Z h n3 kn3 .long (8 : Int32) [(.long x0), (.long x1), (.long x2), (.long x3), (.long x4), (.long x5), (.long x6), (.long x7)] (.long 0)
set_option maxRecDepth 65536 in
set_option maxHeartbeats 40000000 in
theorem rmdr44 (l : Launch) (Z : State) (a0 : Array Value) (hw : ∀ d ∈ tables_1, d.before a0 Z = true) (ws : List Jvm.Cond) (a1 : Addr) (q2 : Int64) (aB : Addr) (aP : Addr) (aM : Addr) (kB : ClassId) (kP : ClassId) (kM : ClassId) (b0 : Int64) (b1 : Int64) (b2 : Int64) (b3 : Int64) (b4 : Int64) (b5 : Int64) (b6 : Int64) (b7 : Int64) (x0 : Int64) (x1 : Int64) (x2 : Int64) (x3 : Int64) (x4 : Int64) (x5 : Int64) (x6 : Int64) (x7 : Int64) (h0 : Heap) (n0 : Nat) (Z0 : n0 ≤ h0.size) (E_a1 : Exa Z h0 a1 KC) (F_baseOffsets_a1 : Fld Z h0 a1 KC KB "[J" (.ref aB)) (F_positions_a1 : Fld Z h0 a1 KC KP "[J" (.ref aP)) (F_maxTimestampsSoFar_a1 : Fld Z h0 a1 KC KM "[J" (.ref aM)) (F_count_a1 : Fld Z h0 a1 KC "count" "I" (.int 4)) (F_first_a1 : Fld Z h0 a1 KC "first" "J" (.long 0)) (V_aB : Arv Z h0 aB kB .long (8 : Int32) [(.long b0), (.long b1), (.long b2), (.long b3), (.long b4), (.long b5), (.long b6), (.long b7)] (.long 0)) (V_aP : Arv Z h0 aP kP .long (8 : Int32) [(.long 10), (.long 20), (.long 30), (.long 40), (.long 0), (.long 0), (.long 0), (.long 0)] (.long 0)) (V_aM : Arv Z h0 aM kM .long (8 : Int32) [(.long x0), (.long x1), (.long x2), (.long x3), (.long x4), (.long x5), (.long x6), (.long x7)] (.long 0)) (E_aB : Exa Z h0 aB "[J") (E_aP : Exa Z h0 aP "[J") (E_aM : Exa Z h0 aM "[J") (g_a1 : n0 ≤ a1) (g_aB : n0 ≤ aB) (g_aP : n0 ≤ aP) (g_aM : n0 ≤ aM) (ne_a1_aB : a1 ≠ aB) (ne_a1_aP : a1 ≠ aP) (ne_a1_aM : a1 ≠ aM) (ne_aB_aP : aB ≠ aP) (ne_aB_aM : aB ≠ aM) (ne_aP_aM : aP ≠ aM) (hk : (fla_4 (q2 - (1 : Int64))) = (3 : Int32)) :
    MetFree l (⟨KC, "dropBefore", "(J)V"⟩ : MethodName) (head1 (Jvm.Cond.code (⟨KC, "dropBefore", "(J)V"⟩ : MethodName) prog_126_method_11_code 4 none :: ws) R_dr44) (fun a U => a = #[(.ref a1), (.long q2)] ∧ Z.Warmed39 U.vm ∧ U.heap = h0) (fun _ _ _ _ _ => True) (fun _ U o U' => ∃ v L, o = .returned v ∧ Qdr44 Z a1 q2 aB aP aM kB kP kM b0 b1 b2 b3 b4 b5 b6 b7 x0 x1 x2 x3 x4 x5 x6 x7 h0 n0 v U'.heap L ∧ FrameEnd U o U' L R_dr44.cells R_dr44.slots) := by
  refine MetFree.of_bodySF (plainFor_of_name pn_55) hisR ?_
  intro p e s m args below meth c s₁ Bd hml0 hP hK
  obtain ⟨rfl, hZ, hh⟩ := hP
  have hx := Bd.exec
  have hby := Bd.bytes
  have hml : c.maxLocals = 4 := hml0
  have hown : s.vm.findClass KC = some m.cls := findClass_of_methodNamed Bd.named
  have hnm := (name_of_methodNamed Bd.named Bd.method).1
  have X0 : Stand p l e R_dr44 s m #[(.ref a1), (.long q2)] below meth c s₁ [] 0 0 := Stand.of_body Bd
  have e0 : s₁.heap = h0 := by rw [← hh, Bd.state]; rfl
  have N0 := Fr.nil n0
  have pre0 : ∀ t, Steps p.tables e below (s₁.setTop (mkF m 0 #[uR a1, uL q2, uS, uU] [])) t → Steps p.tables e below (s₁.setTop (entryFrame m #[(.ref a1), (.long q2)] 4)) t := fun t k => castTop (ef_dr44 m a1 q2) k
  obtain ⟨T1, X1, e1, st1⟩ := getF X0 hx hZ hown (host := "") (Or.inl (own_w hw (i := 13) rfl)) Via.refl e0 F_positions_a1 (g := (mkF m 2 #[uR a1, uL q2, uS, uU] [(.ref a1), (.ref a1)])) rfl rfl (hb hby d3_2)
  -- pc 8: BatchIndex.lastAtOrBefore by rmla_4
  obtain ⟨cq2, qc2, qc2'⟩ := E_a1.cell
  obtain ⟨_, _, ⟨T2, L2, ck2, cn2⟩, -, X2, ⟨Lc2, hQ2, l2, y2, z2⟩, st2⟩ := X1.privateBack hx (y := (⟨KC, "lastAtOrBefore", "([JJ)I"⟩ : MethodName)) hown (mvT hZ (own_w hw (i := 23) rfl)) (mvT hZ (own_w hw (i := 24) rfl)) (own_sel (y := (⟨KC, "lastAtOrBefore", "([JJ)I"⟩ : MethodName)) (mvT hZ (own_w hw (i := 1) rfl)) (Cond.privateMethod_at (mvP hZ (own_w hw (i := 25) rfl) (args := #[]))) (mvT hZ (own_w hw (i := 24) rfl)) (by decide)) (Cond.privateMethod_at (mvP hZ (own_w hw (i := 25) rfl) (args := #[]))) (mvT hZ (own_w hw (i := 26) rfl)) (by decide) (backOf (W := 0) (rmla_4 l Z a0 hw [] a1 aP (q2 - (1 : Int64)) kP (3 : Int32) h0 n0 Z0 F_count_a1 V_aP hk) hZ (own_w hw (i := 26) rfl) (own_w hw (i := 2) rfl) (by decide) (by decide)) (g := (mkF m 8 #[uR a1, uL q2, uS, uU] [(.long (q2 - (1 : Int64))), (.ref aP), (.ref a1)])) rfl (by rw [hml]; rfl) (Steps.refl _) (a := a1) (by rw [e1]; exact qc2) qc2' (argsL := [(.ref aP), (.long (q2 - (1 : Int64)))]) (rest := []) (lenOf pd_239 rfl) rfl (by show 2 * 0 + _ ≤ _; exact Nat.le_of_eq rfl) (hb hby d3_8) (fun _ _ => ⟨rfl, e1, (by decide : 0 + 0 ≤ _), (by decide : 0 + 0 ≤ _)⟩)
  dsimp only [Pt.U, Pt.locs, Pt.cells, Pt.slots] at X2 l2 y2 z2 st2 hQ2
  subst y2 z2
  obtain ⟨rfl, N2q, e2⟩ := hQ2
  have N3 : Fr n0 L2 := by rw [l2]; exact Fr.app N0 N2q
  obtain ⟨T4, X4, e4, st4⟩ := getF X2 hx hZ hown (host := "") (Or.inl (own_w hw (i := 27) rfl)) Via.refl e2 F_count_a1 (g := (mkF m 16 #[uR a1, uL q2, uS, uI 4] [(.ref a1), (.ref a1)])) rfl rfl (hb hby d3_16)
  obtain ⟨T5, h5, X5, e5, W5, st5⟩ := putF X4 hx hZ hown (host := "") (Or.inl (own_w hw (i := 27) rfl)) Via.refl e4 F_count_a1 E_a1 (Or.inl (own_w hw (i := 28) rfl)) (own_w hw (i := 1) rfl) (ty := .int) (by decide) rfl rfl (g := (mkF m 21 #[uR a1, uL q2, uS, uI 4] [(.int 0), (.ref a1)])) rfl rfl (hb hby d3_21)
  have f6 := E_a1.wr W5
  have f7 := F_baseOffsets_a1.other W5 (Or.inr (sn_143 hw))
  have f8 := F_positions_a1.other W5 (Or.inr (sn_144 hw))
  have f9 := F_maxTimestampsSoFar_a1.other W5 (Or.inr (sn_145 hw))
  have f10 := F_count_a1.same W5
  have f11 := F_first_a1.other W5 (Or.inr (sn_146 hw))
  have f12 := V_aB.other W5 (Ne.symm ne_a1_aB)
  have f13 := V_aP.other W5 (Ne.symm ne_a1_aP)
  have f14 := V_aM.other W5 (Ne.symm ne_a1_aM)
  have f15 := E_aB.wr W5
  have f16 := E_aP.wr W5
  have f17 := E_aM.wr W5
  have K18 := (Keep.refl h0 [a1, aB, aP, aM]).wr W5 (Or.inl (List.mem_of_getElem? (i := 0) rfl))
  have zs19 : n0 ≤ h5.size := Nat.le_trans Z0 (Keep.of_wr W5).1
  have N20 := Fr.snoc X5 N3 g_a1
  obtain ⟨T21, X21, e21, st21⟩ := getF X5 hx hZ hown (host := "") (Or.inl (own_w hw (i := 39) rfl)) Via.refl e5 f11 (g := (mkF m 26 #[uR a1, uL q2, uS, uI 4] [(.ref a1), (.ref a1)])) rfl rfl (hb hby d3_26)
  obtain ⟨T22, h22, X22, e22, W22, st22⟩ := putF X21 hx hZ hown (host := "") (Or.inl (own_w hw (i := 39) rfl)) Via.refl e21 f11 f6 (Or.inl (own_w hw (i := 40) rfl)) (own_w hw (i := 1) rfl) (ty := .long) (by decide) rfl rfl (g := (mkF m 32 #[uR a1, uL q2, uS, uI 4] [(.long 4), (.ref a1)])) rfl rfl (hb hby d3_32)
  have f23 := f6.wr W22
  have f24 := f7.other W22 (Or.inr (sn_256 hw))
  have f25 := f8.other W22 (Or.inr (sn_257 hw))
  have f26 := f9.other W22 (Or.inr (sn_258 hw))
  have f27 := f10.other W22 (Or.inr (sn_259 hw))
  have f28 := f11.same W22
  have f29 := f12.other W22 (Ne.symm ne_a1_aB)
  have f30 := f13.other W22 (Ne.symm ne_a1_aP)
  have f31 := f14.other W22 (Ne.symm ne_a1_aM)
  have f32 := f15.wr W22
  have f33 := f16.wr W22
  have f34 := f17.wr W22
  have K35 := K18.wr W22 (Or.inl (List.mem_of_getElem? (i := 0) rfl))
  have zs36 : n0 ≤ h22.size := Nat.le_trans zs19 (Keep.of_wr W22).1
  have N37 := Fr.snoc X22 N20 g_a1
  obtain ⟨T38, X38, e38, st38⟩ := getF X22 hx hZ hown (host := "") (Or.inl (own_w hw (i := 11) rfl)) Via.refl e22 f24 (g := (mkF m 36 #[uR a1, uL q2, uS, uI 4] [(.ref a1)])) rfl rfl (hb hby d3_36)
  obtain ⟨T39, X39, e39, st39⟩ := getF X38 hx hZ hown (host := "") (Or.inl (own_w hw (i := 11) rfl)) Via.refl e38 f24 (g := (mkF m 41 #[uR a1, uL q2, uS, uI 4] [(.ref a1), (.int 4), (.ref aB)])) rfl rfl (hb hby d3_41)
  obtain ⟨T40, X40, e40, st40⟩ := getF X39 hx hZ hown (host := "") (Or.inl (own_w hw (i := 27) rfl)) Via.refl e39 f27 (g := (mkF m 46 #[uR a1, uL q2, uS, uI 4] [(.ref a1), (.int 0), (.ref aB), (.int 4), (.ref aB)])) rfl rfl (hb hby d3_46)
  obtain ⟨T41, h41, L41, X41, e41, N41, Kc41, V41, st41⟩ := cpA X40 hx hZ hown (own_w hw (i := 41) rfl) (own_w hw (i := 44) rfl) (own_w hw (i := 42) rfl) (own_w hw (i := 43) rfl) e40 f29 f29 (sp := (4 : Int32)) (dp := (0 : Int32)) (nn := (0 : Int32)) (us := []) (Or.inl ⟨rfl, rfl⟩) (by decide) (by decide) (by decide) (by decide) (by decide) rfl (Nat.le_of_ble_eq_true rfl) N37 g_aB (g := (mkF m 49 #[uR a1, uL q2, uS, uI 4] [(.int 0), (.int 0), (.ref aB), (.int 4), (.ref aB)])) rfl (by rw [hml]; rfl) rfl (hb hby d3_49) (by decide) (W := 0) (by show 2 * 0 + _ ≤ _; exact Nat.le_of_eq rfl) (by decide)
  have Kd41 : Keep h22 h41 [aB] := Kc41
  have f42 := f23.keep Kd41
  have f43 := f24.keep Kd41 (ninS ne_a1_aB nin0)
  have f44 := f25.keep Kd41 (ninS ne_a1_aB nin0)
  have f45 := f26.keep Kd41 (ninS ne_a1_aB nin0)
  have f46 := f27.keep Kd41 (ninS ne_a1_aB nin0)
  have f47 := f28.keep Kd41 (ninS ne_a1_aB nin0)
  have f48 := f30.keep Kd41 (ninS (Ne.symm ne_aB_aP) nin0)
  have f49 := f31.keep Kd41 (ninS (Ne.symm ne_aB_aM) nin0)
  have f50 := f32.keep Kd41
  have f51 := f33.keep Kd41
  have f52 := f34.keep Kd41
  have zs53 : n0 ≤ h41.size := Nat.le_trans zs36 Kd41.1
  have K54 := K35.trans Kd41 (allS (Or.inl (List.mem_of_getElem? (i := 1) rfl)) all0)
  have Vx41 : Arv Z h41 aB kB .long (8 : Int32) [(.long b0), (.long b1), (.long b2), (.long b3), (.long b4), (.long b5), (.long b6), (.long b7)] (.long 0) := V41
  obtain ⟨T55, X55, e55, st55⟩ := getF X41 hx hZ hown (host := "") (Or.inl (own_w hw (i := 13) rfl)) Via.refl e41 f44 (g := (mkF m 53 #[uR a1, uL q2, uS, uI 4] [(.ref a1)])) rfl rfl (hb hby d3_53)
  obtain ⟨T56, X56, e56, st56⟩ := getF X55 hx hZ hown (host := "") (Or.inl (own_w hw (i := 13) rfl)) Via.refl e55 f44 (g := (mkF m 58 #[uR a1, uL q2, uS, uI 4] [(.ref a1), (.int 4), (.ref aP)])) rfl rfl (hb hby d3_58)
  obtain ⟨T57, X57, e57, st57⟩ := getF X56 hx hZ hown (host := "") (Or.inl (own_w hw (i := 27) rfl)) Via.refl e56 f46 (g := (mkF m 63 #[uR a1, uL q2, uS, uI 4] [(.ref a1), (.int 0), (.ref aP), (.int 4), (.ref aP)])) rfl rfl (hb hby d3_63)
  obtain ⟨T58, h58, L58, X58, e58, N58, Kc58, V58, st58⟩ := cpA X57 hx hZ hown (own_w hw (i := 41) rfl) (own_w hw (i := 44) rfl) (own_w hw (i := 42) rfl) (own_w hw (i := 43) rfl) e57 f48 f48 (sp := (4 : Int32)) (dp := (0 : Int32)) (nn := (0 : Int32)) (us := []) (Or.inl ⟨rfl, rfl⟩) (by decide) (by decide) (by decide) (by decide) (by decide) rfl (Nat.le_of_ble_eq_true rfl) N41 g_aP (g := (mkF m 66 #[uR a1, uL q2, uS, uI 4] [(.int 0), (.int 0), (.ref aP), (.int 4), (.ref aP)])) rfl (by rw [hml]; rfl) rfl (hb hby d3_66) (by decide) (W := 0) (by show 2 * 0 + _ ≤ _; exact Nat.le_of_eq rfl) (by decide)
  have Kd58 : Keep h41 h58 [aP] := Kc58
  have f59 := f42.keep Kd58
  have f60 := f43.keep Kd58 (ninS ne_a1_aP nin0)
  have f61 := f44.keep Kd58 (ninS ne_a1_aP nin0)
  have f62 := f45.keep Kd58 (ninS ne_a1_aP nin0)
  have f63 := f46.keep Kd58 (ninS ne_a1_aP nin0)
  have f64 := f47.keep Kd58 (ninS ne_a1_aP nin0)
  have f65 := f49.keep Kd58 (ninS (Ne.symm ne_aP_aM) nin0)
  have f66 := f50.keep Kd58
  have f67 := f51.keep Kd58
  have f68 := f52.keep Kd58
  have f69 := Vx41.keep Kd58 (ninS ne_aB_aP nin0)
  have zs70 : n0 ≤ h58.size := Nat.le_trans zs53 Kd58.1
  have K71 := K54.trans Kd58 (allS (Or.inl (List.mem_of_getElem? (i := 2) rfl)) all0)
  have Vx58 : Arv Z h58 aP kP .long (8 : Int32) [(.long 10), (.long 20), (.long 30), (.long 40), (.long 0), (.long 0), (.long 0), (.long 0)] (.long 0) := V58
  obtain ⟨T72, X72, e72, st72⟩ := getF X58 hx hZ hown (host := "") (Or.inl (own_w hw (i := 15) rfl)) Via.refl e58 f62 (g := (mkF m 70 #[uR a1, uL q2, uS, uI 4] [(.ref a1)])) rfl rfl (hb hby d3_70)
  obtain ⟨T73, X73, e73, st73⟩ := getF X72 hx hZ hown (host := "") (Or.inl (own_w hw (i := 15) rfl)) Via.refl e72 f62 (g := (mkF m 75 #[uR a1, uL q2, uS, uI 4] [(.ref a1), (.int 4), (.ref aM)])) rfl rfl (hb hby d3_75)
  obtain ⟨T74, X74, e74, st74⟩ := getF X73 hx hZ hown (host := "") (Or.inl (own_w hw (i := 27) rfl)) Via.refl e73 f63 (g := (mkF m 80 #[uR a1, uL q2, uS, uI 4] [(.ref a1), (.int 0), (.ref aM), (.int 4), (.ref aM)])) rfl rfl (hb hby d3_80)
  obtain ⟨T75, h75, L75, X75, e75, N75, Kc75, V75, st75⟩ := cpA X74 hx hZ hown (own_w hw (i := 41) rfl) (own_w hw (i := 44) rfl) (own_w hw (i := 42) rfl) (own_w hw (i := 43) rfl) e74 f65 f65 (sp := (4 : Int32)) (dp := (0 : Int32)) (nn := (0 : Int32)) (us := []) (Or.inl ⟨rfl, rfl⟩) (by decide) (by decide) (by decide) (by decide) (by decide) rfl (Nat.le_of_ble_eq_true rfl) N58 g_aM (g := (mkF m 83 #[uR a1, uL q2, uS, uI 4] [(.int 0), (.int 0), (.ref aM), (.int 4), (.ref aM)])) rfl (by rw [hml]; rfl) rfl (hb hby d3_83) (by decide) (W := 0) (by show 2 * 0 + _ ≤ _; exact Nat.le_of_eq rfl) (by decide)
  have Kd75 : Keep h58 h75 [aM] := Kc75
  have f76 := f59.keep Kd75
  have f77 := f60.keep Kd75 (ninS ne_a1_aM nin0)
  have f78 := f61.keep Kd75 (ninS ne_a1_aM nin0)
  have f79 := f62.keep Kd75 (ninS ne_a1_aM nin0)
  have f80 := f63.keep Kd75 (ninS ne_a1_aM nin0)
  have f81 := f64.keep Kd75 (ninS ne_a1_aM nin0)
  have f82 := f66.keep Kd75
  have f83 := f67.keep Kd75
  have f84 := f68.keep Kd75
  have f85 := f69.keep Kd75 (ninS ne_aB_aM nin0)
  have f86 := Vx58.keep Kd75 (ninS ne_aP_aM nin0)
  have zs87 : n0 ≤ h75.size := Nat.le_trans zs70 Kd75.1
  have K88 := K71.trans Kd75 (allS (Or.inl (List.mem_of_getElem? (i := 3) rfl)) all0)
  have Vx75 : Arv Z h75 aM kM .long (8 : Int32) [(.long x0), (.long x1), (.long x2), (.long x3), (.long x4), (.long x5), (.long x6), (.long x7)] (.long 0) := V75
  obtain ⟨T89, X89, e89, st89⟩ := getF X75 hx hZ hown (host := "") (Or.inl (own_w hw (i := 27) rfl)) Via.refl e75 f80 (g := (mkF m 88 #[uR a1, uL q2, uS, uI 4] [(.ref a1), (.ref a1)])) rfl rfl (hb hby d3_88)
  -- pc 95: Math.max by rmmx2
  obtain ⟨_, _, ⟨T90, L90, ck90, cn90⟩, -, X90, ⟨Lc90, hQ90, l90, y90, z90⟩, st90⟩ := Jvm.LawKit.callS X89 hx (y := (⟨"java/lang/Math", "max", "(II)I"⟩ : MethodName)) hown (mvT hZ (own_w hw (i := 45) rfl)) (mvT hZ (own_w hw (i := 46) rfl)) (mvT hZ (own_w hw (i := 47) rfl)) (mvT hZ (own_w hw (i := 48) rfl)) (by decide) (backOf (W := 1) (rmmx2 l Z a0 hw [] (0 : Int32) (8 : Int32) h75 n0 zs87 (by decide)) hZ (own_w hw (i := 48) rfl) (own_w hw (i := 47) rfl) (by decide) (by decide)) (g := (mkF m 95 #[uR a1, uL q2, uS, uI 4] [(.int 8), (.int 0), (.ref a1)])) rfl (by rw [hml]; rfl) (argsL := [(.int 0), (.int 8)]) (rest := [(.ref a1)]) (lenOf pd_47 rfl) rfl (by show 2 * 0 + _ ≤ _; exact Nat.le_of_eq rfl) (hb hby d3_95) (fun _ _ => ⟨rfl, e89, (by decide : 0 + 0 ≤ _), (by decide : 0 + 0 ≤ _)⟩)
  dsimp only [Pt.U, Pt.locs, Pt.cells, Pt.slots] at X90 l90 y90 z90 st90 hQ90
  subst y90 z90
  obtain ⟨rfl, N90q, e90⟩ := hQ90
  have N91 : Fr n0 L90 := by rw [l90]; exact Fr.app N75 N90q
  -- pc 98: BatchIndex.resize by rmrz8
  obtain ⟨cq92, qc92, qc92'⟩ := f76.cell
  obtain ⟨_, _, ⟨T92, L92, ck92, cn92⟩, -, X92, ⟨Lc92, hQ92, l92, y92, z92⟩, st92⟩ := X90.privateBack hx (y := (⟨KC, "resize", "(I)V"⟩ : MethodName)) hown (mvT hZ (own_w hw (i := 49) rfl)) (mvT hZ (own_w hw (i := 50) rfl)) (own_sel (y := (⟨KC, "resize", "(I)V"⟩ : MethodName)) (mvT hZ (own_w hw (i := 1) rfl)) (Cond.privateMethod_at (mvP hZ (own_w hw (i := 51) rfl) (args := #[]))) (mvT hZ (own_w hw (i := 50) rfl)) (by decide)) (Cond.privateMethod_at (mvP hZ (own_w hw (i := 51) rfl) (args := #[]))) (mvT hZ (own_w hw (i := 52) rfl)) (by decide) (backOf (W := 0) (rmrz8 l Z a0 hw [] a1 aB aP aM kB kP kM (0 : Int32) (4 : Int64) b0 b1 b2 b3 b4 b5 b6 b7 (10 : Int64) (20 : Int64) (30 : Int64) (40 : Int64) (0 : Int64) (0 : Int64) (0 : Int64) (0 : Int64) x0 x1 x2 x3 x4 x5 x6 x7 h75 n0 zs87 f76 f80 f81 f77 f78 f79 f85 f86 Vx75 f82 f83 f84 g_a1 ne_a1_aB ne_a1_aP ne_a1_aM ne_aB_aP ne_aB_aM ne_aP_aM) hZ (own_w hw (i := 52) rfl) (own_w hw (i := 2) rfl) (by decide) (by decide)) (g := (mkF m 98 #[uR a1, uL q2, uS, uI 4] [(.int 8), (.ref a1)])) rfl (by rw [hml]; rfl) (Steps.refl _) (a := a1) (by rw [e90]; exact qc92) qc92' (argsL := [(.int 8)]) (rest := []) (lenOf pd_114 rfl) rfl (by show 2 * 0 + _ ≤ _; exact Nat.le_of_eq rfl) (hb hby d3_98) (fun _ _ => ⟨rfl, e90, (by decide : 0 + 3 ≤ _), (by decide : 0 + 24 ≤ _)⟩)
  dsimp only [Pt.U, Pt.locs, Pt.cells, Pt.slots] at X92 l92 y92 z92 st92 hQ92
  subst y92 z92
  obtain ⟨n1_92, kn1_92, n2_92, kn2_92, n3_92, kn3_92, rfl, N92q, K92q, gq92_0, gq92_1, gq92_2, sq92_0, sq92_1, sq92_2, nq92_1_0, nq92_2_0, nq92_2_1, o92_0, o92_1, o92_2, o92_3, o92_4, o92_5, o92_6, o92_7, o92_8, o92_9, o92_10, o92_11⟩ := hQ92
  have N93 : Fr n0 L92 := by rw [l92]; exact Fr.app N91 N92q
  have sz_n1_92 : h0.size ≤ n1_92 := Nat.le_trans K88.1 sq92_0
  have sz_n2_92 : h0.size ≤ n2_92 := Nat.le_trans K88.1 sq92_1
  have sz_n3_92 : h0.size ≤ n3_92 := Nat.le_trans K88.1 sq92_2
  have K119 := K88.trans K92q (allS (Or.inl (List.mem_of_getElem? (i := 0) rfl)) all0)
  obtain ⟨fs, hr, hrun, hended, hW, hsame⟩ := X92.leave (v := none) (fun _ => rfl) Bd.notSynchronized
  refine ⟨_, _, pre0 _ ?_, hrun, hended, _, _, rfl, ?_, ⟨_, rfl⟩, hW, hsame.mono (by decide) (by decide)⟩
  · show Steps p.tables e below (s₁.setTop (mkF m 0 #[uR a1, uL q2, uS, uU] [])) _
    refine XS.aloadN X0.here hx rfl (hb hby d3_0) rfl rfl ?_
    refine XS.aloadN X0.here hx rfl (hb hby d3_1) rfl rfl ?_
    refine st1 _ ?_
    refine XS.lloadN X1.here hx rfl (hb hby d3_5) rfl ?_
    refine XS.lconst X1.here hx rfl (hb hby d3_6) ?_
    refine XS.lsub X1.here hx rfl (hb hby d3_7) rfl ?_
    refine st2.trans ?_
    refine XS.iconst X2.here hx rfl (hb hby d3_11) ?_
    refine XS.iadd X2.here hx rfl (hb hby d3_12) rfl ?_
    refine XS.istoreN X2.here hx rfl (hb hby d3_13) rfl (l' := #[uR a1, uL q2, uS, uI 4]) rfl ?_
    refine XS.aloadN X2.here hx rfl (hb hby d3_14) rfl rfl ?_
    refine XS.dup X2.here hx rfl (hb hby d3_15) rfl rfl ?_
    refine st4 _ ?_
    refine XS.iloadN X4.here hx rfl (hb hby d3_19) rfl ?_
    refine XS.isub X4.here hx rfl (hb hby d3_20) rfl ?_
    refine st5 _ ?_
    show Steps p.tables e below (T5.setTop (mkF m 24 #[uR a1, uL q2, uS, uI 4] [])) _
    refine XS.aloadN X5.here hx rfl (hb hby d3_24) rfl rfl ?_
    refine XS.dup X5.here hx rfl (hb hby d3_25) rfl rfl ?_
    refine st21 _ ?_
    refine XS.iloadN X21.here hx rfl (hb hby d3_29) rfl ?_
    refine XS.i2l X21.here hx rfl (hb hby d3_30) rfl ?_
    refine XS.ladd X21.here hx rfl (hb hby d3_31) rfl ?_
    refine st22 _ ?_
    refine XS.aloadN X22.here hx rfl (hb hby d3_35) rfl rfl ?_
    refine st38 _ ?_
    refine XS.iloadN X38.here hx rfl (hb hby d3_39) rfl ?_
    refine XS.aloadN X38.here hx rfl (hb hby d3_40) rfl rfl ?_
    refine st39 _ ?_
    refine XS.iconst X39.here hx rfl (hb hby d3_44) ?_
    refine XS.aloadN X39.here hx rfl (hb hby d3_45) rfl rfl ?_
    refine st40 _ ?_
    refine st41 _ ?_
    show Steps p.tables e below (T41.setTop (mkF m 52 #[uR a1, uL q2, uS, uI 4] [])) _
    refine XS.aloadN X41.here hx rfl (hb hby d3_52) rfl rfl ?_
    refine st55 _ ?_
    refine XS.iloadN X55.here hx rfl (hb hby d3_56) rfl ?_
    refine XS.aloadN X55.here hx rfl (hb hby d3_57) rfl rfl ?_
    refine st56 _ ?_
    refine XS.iconst X56.here hx rfl (hb hby d3_61) ?_
    refine XS.aloadN X56.here hx rfl (hb hby d3_62) rfl rfl ?_
    refine st57 _ ?_
    refine st58 _ ?_
    refine XS.aloadN X58.here hx rfl (hb hby d3_69) rfl rfl ?_
    refine st72 _ ?_
    refine XS.iloadN X72.here hx rfl (hb hby d3_73) rfl ?_
    refine XS.aloadN X72.here hx rfl (hb hby d3_74) rfl rfl ?_
    refine st73 _ ?_
    refine XS.iconst X73.here hx rfl (hb hby d3_78) ?_
    refine XS.aloadN X73.here hx rfl (hb hby d3_79) rfl rfl ?_
    show Steps p.tables e below (T73.setTop (mkF m 80 #[uR a1, uL q2, uS, uI 4] [(.ref a1), (.int 0), (.ref aM), (.int 4), (.ref aM)])) _
    refine st74 _ ?_
    refine st75 _ ?_
    refine XS.aloadN X75.here hx rfl (hb hby d3_86) rfl rfl ?_
    refine XS.aloadN X75.here hx rfl (hb hby d3_87) rfl rfl ?_
    refine st89 _ ?_
    refine XS.iconst X89.here hx rfl (hb hby d3_91) ?_
    refine XS.imul X89.here hx rfl (hb hby d3_92) rfl ?_
    refine XS.bipush X89.here hx rfl (hb hby d3_93) ?_
    refine st90 _ ?_
    refine st92.trans ?_
    exact X92.returnOut hx Bd.returns (hb hby d3_101) hr
  · show Qdr44 Z a1 q2 aB aP aM kB kP kM b0 b1 b2 b3 b4 b5 b6 b7 x0 x1 x2 x3 x4 x5 x6 x7 h0 n0 _ T92.heap _
    exact ⟨n1_92, kn1_92, n2_92, kn2_92, n3_92, kn3_92, rfl, N93, K119, gq92_0, gq92_1, gq92_2, sz_n1_92, sz_n2_92, sz_n3_92, nq92_1_0, nq92_2_0, nq92_2_1, o92_0, o92_4, o92_5, o92_3, o92_10⟩
theorem d13_0 : decode prog_126_method_10_code 0 = .ok (.iconst 0, 1) := by decide +kernel
theorem d13_1 : decode prog_126_method_10_code 1 = .ok (.istore_n 3, 1) := by decide +kernel
theorem d13_2 : decode prog_126_method_10_code 2 = .ok (.aload_n 0, 1) := by decide +kernel
theorem d13_3 : decode prog_126_method_10_code 3 = .ok (.getfield 22, 3) := by decide +kernel
theorem d13_6 : decode prog_126_method_10_code 6 = .ok (.istore 4, 2) := by decide +kernel
theorem d13_8 : decode prog_126_method_10_code 8 = .ok (.iload_n 3, 1) := by decide +kernel
theorem d13_9 : decode prog_126_method_10_code 9 = .ok (.iload 4, 2) := by decide +kernel
theorem d13_11 : decode prog_126_method_10_code 11 = .ok (.if_icmp .ge 38, 3) := by decide +kernel
theorem d13_49 : decode prog_126_method_10_code 49 = .ok (.aload_n 0, 1) := by decide +kernel
theorem d13_50 : decode prog_126_method_10_code 50 = .ok (.getfield 39, 3) := by decide +kernel
theorem d13_53 : decode prog_126_method_10_code 53 = .ok (.iload_n 3, 1) := by decide +kernel
theorem d13_54 : decode prog_126_method_10_code 54 = .ok (.i2l, 1) := by decide +kernel
theorem d13_55 : decode prog_126_method_10_code 55 = .ok (.ladd, 1) := by decide +kernel
theorem d13_56 : decode prog_126_method_10_code 56 = .ok (.lreturn, 1) := by decide +kernel
theorem ef_fr0 (m : MethodId) (x0 : Addr) (x1 : Int64) : entryFrame m #[(.ref x0), (.long x1)] 6 = mkF m 0 #[.val (.ref x0), .val (.long x1), .second, .unset, .unset, .unset] [] := by first | (simp [entryFrame, mkF, argsToLocals, Value.category]; done) | rfl
abbrev R_fr0 : Room := { frames := 0, cells := 0, slots := 0, locals := 0 }
def Qfr0 (Z : State) (a1 : Addr) (q2 : Int64) (aM : Addr) (kM : ClassId) (fz : Int64) (x0 : Int64) (x1 : Int64) (x2 : Int64) (x3 : Int64) (x4 : Int64) (x5 : Int64) (x6 : Int64) (x7 : Int64) (h0 : Heap) (n0 : Nat) (v : Option Value) (h : Heap) (L : List Loc) : Prop := v = some (.long (fz + (0 : Int64))) ∧ Fr n0 L ∧ h = h0
set_option maxRecDepth 65536 in
set_option maxHeartbeats 40000000 in
theorem rmfr0 (l : Launch) (Z : State) (a0 : Array Value) (hw : ∀ d ∈ tables_1, d.before a0 Z = true) (ws : List Jvm.Cond) (a1 : Addr) (q2 : Int64) (aM : Addr) (kM : ClassId) (fz : Int64) (x0 : Int64) (x1 : Int64) (x2 : Int64) (x3 : Int64) (x4 : Int64) (x5 : Int64) (x6 : Int64) (x7 : Int64) (h0 : Heap) (n0 : Nat) (Z0 : n0 ≤ h0.size) (F_count_a1 : Fld Z h0 a1 KC "count" "I" (.int 0)) (F_first_a1 : Fld Z h0 a1 KC "first" "J" (.long fz)) (F_maxTimestampsSoFar_a1 : Fld Z h0 a1 KC KM "[J" (.ref aM)) (V_aM : Arv Z h0 aM kM .long (8 : Int32) [(.long x0), (.long x1), (.long x2), (.long x3), (.long x4), (.long x5), (.long x6), (.long x7)] (.long 0)) :
    MetFree l (⟨KC, "firstReaching", "(J)J"⟩ : MethodName) (head1 (Jvm.Cond.code (⟨KC, "firstReaching", "(J)J"⟩ : MethodName) prog_126_method_10_code 6 (some .long) :: ws) R_fr0) (fun a U => a = #[(.ref a1), (.long q2)] ∧ Z.Warmed39 U.vm ∧ U.heap = h0) (fun _ _ _ _ _ => True) (fun _ U o U' => ∃ v L, o = .returned v ∧ Qfr0 Z a1 q2 aM kM fz x0 x1 x2 x3 x4 x5 x6 x7 h0 n0 v U'.heap L ∧ FrameEnd U o U' L R_fr0.cells R_fr0.slots) := by
  refine MetFree.of_bodySF (plainFor_of_name pn_55) hisR ?_
  intro p e s m args below meth c s₁ Bd hml0 hP hK
  obtain ⟨rfl, hZ, hh⟩ := hP
  have hx := Bd.exec
  have hby := Bd.bytes
  have hml : c.maxLocals = 6 := hml0
  have hown : s.vm.findClass KC = some m.cls := findClass_of_methodNamed Bd.named
  have hnm := (name_of_methodNamed Bd.named Bd.method).1
  have X0 : Stand p l e R_fr0 s m #[(.ref a1), (.long q2)] below meth c s₁ [] 0 0 := Stand.of_body Bd
  have e0 : s₁.heap = h0 := by rw [← hh, Bd.state]; rfl
  have N0 := Fr.nil n0
  have pre0 : ∀ t, Steps p.tables e below (s₁.setTop (mkF m 0 #[uR a1, uL q2, uS, uU, uU, uU] [])) t → Steps p.tables e below (s₁.setTop (entryFrame m #[(.ref a1), (.long q2)] 6)) t := fun t k => castTop (ef_fr0 m a1 q2) k
  obtain ⟨T1, X1, e1, st1⟩ := getF X0 hx hZ hown (host := "") (Or.inl (own_w hw (i := 27) rfl)) Via.refl e0 F_count_a1 (g := (mkF m 3 #[uR a1, uL q2, uS, uI 0, uU, uU] [(.ref a1)])) rfl rfl (hb hby d13_3)
  obtain ⟨T2, X2, e2, st2⟩ := getF X1 hx hZ hown (host := "") (Or.inl (own_w hw (i := 39) rfl)) Via.refl e1 F_first_a1 (g := (mkF m 50 #[uR a1, uL q2, uS, uI 0, uI 0, uU] [(.ref a1)])) rfl rfl (hb hby d13_50)
  obtain ⟨fs, hr, hrun, hended, hW, hsame⟩ := X2.leave (v := some (.long (fz + (0 : Int64)))) (fun h => by rw [Bd.returns] at h; cases h) Bd.notSynchronized
  refine ⟨_, _, pre0 _ ?_, hrun, hended, _, _, rfl, ?_, ⟨_, rfl⟩, hW, hsame.mono (by decide) (by decide)⟩
  · show Steps p.tables e below (s₁.setTop (mkF m 0 #[uR a1, uL q2, uS, uU, uU, uU] [])) _
    refine XS.iconst X0.here hx rfl (hb hby d13_0) ?_
    refine XS.istoreN X0.here hx rfl (hb hby d13_1) rfl (l' := #[uR a1, uL q2, uS, uI 0, uU, uU]) rfl ?_
    refine XS.aloadN X0.here hx rfl (hb hby d13_2) rfl rfl ?_
    refine st1 _ ?_
    refine XS.istore X1.here hx rfl (hb hby d13_6) rfl (l' := #[uR a1, uL q2, uS, uI 0, uI 0, uU]) rfl ?_
    refine XS.iloadN X1.here hx rfl (hb hby d13_8) rfl ?_
    refine XS.iload X1.here hx rfl (hb hby d13_9) rfl ?_
    show Steps p.tables e below (T1.setTop (mkF m 11 #[uR a1, uL q2, uS, uI 0, uI 0, uU] [(.int 0), (.int 0)])) _
    refine XS.icmpYes X1.here hx rfl (pc0 := 11) (pc' := 49) rfl (hb hby d13_11) rfl (flt (by decide : ¬ ((0 : Int32) < (0 : Int32)))).2.1 (by decide) (by decide) ?_
    refine XS.aloadN X1.here hx rfl (hb hby d13_49) rfl rfl ?_
    refine st2 _ ?_
    refine XS.iloadN X2.here hx rfl (hb hby d13_53) rfl ?_
    refine XS.i2l X2.here hx rfl (hb hby d13_54) rfl ?_
    refine XS.ladd X2.here hx rfl (hb hby d13_55) rfl ?_
    exact retOut X2 hx (t := .long) Bd.returns rfl (Or.inr (Or.inl ⟨rfl, rfl, _, rfl⟩)) (hb hby d13_56) hr
  · show Qfr0 Z a1 q2 aM kM fz x0 x1 x2 x3 x4 x5 x6 x7 h0 n0 _ T2.heap _
    rw [e2]
    exact ⟨rfl, N0, rfl⟩
theorem d13_14 : decode prog_126_method_10_code 14 = .ok (.iload_n 3, 1) := by decide +kernel
theorem d13_15 : decode prog_126_method_10_code 15 = .ok (.iload 4, 2) := by decide +kernel
theorem d13_17 : decode prog_126_method_10_code 17 = .ok (.iadd, 1) := by decide +kernel
theorem d13_18 : decode prog_126_method_10_code 18 = .ok (.iconst 1, 1) := by decide +kernel
theorem d13_19 : decode prog_126_method_10_code 19 = .ok (.iushr, 1) := by decide +kernel
theorem d13_20 : decode prog_126_method_10_code 20 = .ok (.istore 5, 2) := by decide +kernel
theorem d13_22 : decode prog_126_method_10_code 22 = .ok (.aload_n 0, 1) := by decide +kernel
theorem d13_23 : decode prog_126_method_10_code 23 = .ok (.getfield 19, 3) := by decide +kernel
theorem d13_26 : decode prog_126_method_10_code 26 = .ok (.iload 5, 2) := by decide +kernel
theorem d13_28 : decode prog_126_method_10_code 28 = .ok (.laload, 1) := by decide +kernel
theorem d13_29 : decode prog_126_method_10_code 29 = .ok (.lload_n 1, 1) := by decide +kernel
theorem d13_30 : decode prog_126_method_10_code 30 = .ok (.lcmp, 1) := by decide +kernel
theorem d13_31 : decode prog_126_method_10_code 31 = .ok (.ifCond .ge 11, 3) := by decide +kernel
theorem d13_34 : decode prog_126_method_10_code 34 = .ok (.iload 5, 2) := by decide +kernel
theorem d13_36 : decode prog_126_method_10_code 36 = .ok (.iconst 1, 1) := by decide +kernel
theorem d13_37 : decode prog_126_method_10_code 37 = .ok (.iadd, 1) := by decide +kernel
theorem d13_38 : decode prog_126_method_10_code 38 = .ok (.istore_n 3, 1) := by decide +kernel
theorem d13_39 : decode prog_126_method_10_code 39 = .ok (.goto 7, 3) := by decide +kernel
theorem d13_46 : decode prog_126_method_10_code 46 = .ok (.goto (-38), 3) := by decide +kernel
theorem d13_42 : decode prog_126_method_10_code 42 = .ok (.iload 5, 2) := by decide +kernel
theorem d13_44 : decode prog_126_method_10_code 44 = .ok (.istore 4, 2) := by decide +kernel
theorem ef_fr1 (m : MethodId) (x0 : Addr) (x1 : Int64) : entryFrame m #[(.ref x0), (.long x1)] 6 = mkF m 0 #[.val (.ref x0), .val (.long x1), .second, .unset, .unset, .unset] [] := by first | (simp [entryFrame, mkF, argsToLocals, Value.category]; done) | rfl
def ffr1 (q2 : Int64) (fz : Int64) (x0 : Int64) : Int64 := if x0 < q2 then (fz + (1 : Int64)) else (fz + (0 : Int64))
abbrev R_fr1 : Room := { frames := 0, cells := 0, slots := 0, locals := 0 }
def Qfr1 (Z : State) (a1 : Addr) (q2 : Int64) (aM : Addr) (kM : ClassId) (fz : Int64) (x0 : Int64) (x1 : Int64) (x2 : Int64) (x3 : Int64) (x4 : Int64) (x5 : Int64) (x6 : Int64) (x7 : Int64) (h0 : Heap) (n0 : Nat) (v : Option Value) (h : Heap) (L : List Loc) : Prop := v = some (.long (ffr1 q2 fz x0)) ∧ Fr n0 L ∧ h = h0
set_option maxRecDepth 65536 in
set_option maxHeartbeats 40000000 in
theorem rmfr1 (l : Launch) (Z : State) (a0 : Array Value) (hw : ∀ d ∈ tables_1, d.before a0 Z = true) (ws : List Jvm.Cond) (a1 : Addr) (q2 : Int64) (aM : Addr) (kM : ClassId) (fz : Int64) (x0 : Int64) (x1 : Int64) (x2 : Int64) (x3 : Int64) (x4 : Int64) (x5 : Int64) (x6 : Int64) (x7 : Int64) (h0 : Heap) (n0 : Nat) (Z0 : n0 ≤ h0.size) (F_count_a1 : Fld Z h0 a1 KC "count" "I" (.int 1)) (F_first_a1 : Fld Z h0 a1 KC "first" "J" (.long fz)) (F_maxTimestampsSoFar_a1 : Fld Z h0 a1 KC KM "[J" (.ref aM)) (V_aM : Arv Z h0 aM kM .long (8 : Int32) [(.long x0), (.long x1), (.long x2), (.long x3), (.long x4), (.long x5), (.long x6), (.long x7)] (.long 0)) :
    MetFree l (⟨KC, "firstReaching", "(J)J"⟩ : MethodName) (head1 (Jvm.Cond.code (⟨KC, "firstReaching", "(J)J"⟩ : MethodName) prog_126_method_10_code 6 (some .long) :: ws) R_fr1) (fun a U => a = #[(.ref a1), (.long q2)] ∧ Z.Warmed39 U.vm ∧ U.heap = h0) (fun _ _ _ _ _ => True) (fun _ U o U' => ∃ v L, o = .returned v ∧ Qfr1 Z a1 q2 aM kM fz x0 x1 x2 x3 x4 x5 x6 x7 h0 n0 v U'.heap L ∧ FrameEnd U o U' L R_fr1.cells R_fr1.slots) := by
  refine MetFree.of_bodySF (plainFor_of_name pn_55) hisR ?_
  intro p e s m args below meth c s₁ Bd hml0 hP hK
  obtain ⟨rfl, hZ, hh⟩ := hP
  have hx := Bd.exec
  have hby := Bd.bytes
  have hml : c.maxLocals = 6 := hml0
  have hown : s.vm.findClass KC = some m.cls := findClass_of_methodNamed Bd.named
  have hnm := (name_of_methodNamed Bd.named Bd.method).1
  have X0 : Stand p l e R_fr1 s m #[(.ref a1), (.long q2)] below meth c s₁ [] 0 0 := Stand.of_body Bd
  have e0 : s₁.heap = h0 := by rw [← hh, Bd.state]; rfl
  have N0 := Fr.nil n0
  have pre0 : ∀ t, Steps p.tables e below (s₁.setTop (mkF m 0 #[uR a1, uL q2, uS, uU, uU, uU] [])) t → Steps p.tables e below (s₁.setTop (entryFrame m #[(.ref a1), (.long q2)] 6)) t := fun t k => castTop (ef_fr1 m a1 q2) k
  obtain ⟨T1, X1, e1, st1⟩ := getF X0 hx hZ hown (host := "") (Or.inl (own_w hw (i := 27) rfl)) Via.refl e0 F_count_a1 (g := (mkF m 3 #[uR a1, uL q2, uS, uI 0, uU, uU] [(.ref a1)])) rfl rfl (hb hby d13_3)
  obtain ⟨T2, X2, e2, st2⟩ := getF X1 hx hZ hown (host := "") (Or.inl (own_w hw (i := 15) rfl)) Via.refl e1 F_maxTimestampsSoFar_a1 (g := (mkF m 23 #[uR a1, uL q2, uS, uI 0, uI 1, uI 0] [(.ref a1)])) rfl rfl (hb hby d13_23)
  obtain ⟨car3, Aar3, qar3, Sar3, Nar3, Har3, Gar3⟩ := id V_aM
  have hinar3 : ¬ ((0 : Int32) < 0 ∨ car3.slots.size ≤ ((0 : Int32)).toNatClampNeg) := inb_of Sar3 ⟨by decide, by decide⟩
  have hatar3 : car3.slots[((0 : Int32)).toNatClampNeg]? = some (.long x0) := Har3.at hinar3 rfl
  have pre4 : ∀ t, Steps p.tables e below (T2.setTop (mkF m 31 #[uR a1, uL q2, uS, uI 0, uI 1, uI 0] [(.int (lcmpW x0 q2))])) t → Steps p.tables e below (s₁.setTop (entryFrame m #[(.ref a1), (.long q2)] 6)) t := fun t k => pre0 t (by
    show Steps p.tables e below (s₁.setTop (mkF m 0 #[uR a1, uL q2, uS, uU, uU, uU] [])) _
    refine XS.iconst X0.here hx rfl (hb hby d13_0) ?_
    refine XS.istoreN X0.here hx rfl (hb hby d13_1) rfl (l' := #[uR a1, uL q2, uS, uI 0, uU, uU]) rfl ?_
    refine XS.aloadN X0.here hx rfl (hb hby d13_2) rfl rfl ?_
    refine st1 _ ?_
    refine XS.istore X1.here hx rfl (hb hby d13_6) rfl (l' := #[uR a1, uL q2, uS, uI 0, uI 1, uU]) rfl ?_
    refine XS.iloadN X1.here hx rfl (hb hby d13_8) rfl ?_
    refine XS.iload X1.here hx rfl (hb hby d13_9) rfl ?_
    show Steps p.tables e below (T1.setTop (mkF m 11 #[uR a1, uL q2, uS, uI 0, uI 1, uU] [(.int 1), (.int 0)])) _
    refine XS.icmpNo X1.here hx rfl (hb hby d13_11) rfl (tlt (by decide : (0 : Int32) < (1 : Int32))).2.1 ?_
    refine XS.iloadN X1.here hx rfl (hb hby d13_14) rfl ?_
    refine XS.iload X1.here hx rfl (hb hby d13_15) rfl ?_
    refine XS.iadd X1.here hx rfl (hb hby d13_17) rfl ?_
    refine XS.iconst X1.here hx rfl (hb hby d13_18) ?_
    refine XS.iushr X1.here hx rfl (hb hby d13_19) rfl ?_
    refine XS.istore X1.here hx rfl (hb hby d13_20) rfl (l' := #[uR a1, uL q2, uS, uI 0, uI 1, uI 0]) rfl ?_
    refine XS.aloadN X1.here hx rfl (hb hby d13_22) rfl rfl ?_
    refine st2 _ ?_
    show Steps p.tables e below (T2.setTop (mkF m 26 #[uR a1, uL q2, uS, uI 0, uI 1, uI 0] [(.ref aM)])) _
    refine XS.iload X2.here hx rfl (hb hby d13_26) rfl ?_
    refine X2.laload hx (j := (0 : Int32)) (v := (.long x0)) (by rw [e2]; exact Aar3.1) (State.isArrayOf_alike hZ.alike Aar3.2.1) Aar3.2.2 hinar3 hatar3 (g := (mkF m 28 #[uR a1, uL q2, uS, uI 0, uI 1, uI 0] [(.int 0), (.ref aM)])) rfl rfl (hb hby d13_28) _ ?_
    refine XS.lloadN X2.here hx rfl (hb hby d13_29) rfl ?_
    refine XS.lcmp X2.here hx rfl (hb hby d13_30) rfl ?_
    exact k)
  by_cases hc5 : x0 < q2
  ·  -- pc 31: x0 < q2
    obtain ⟨T6, X6, e6, st6⟩ := getF X2 hx hZ hown (host := "") (Or.inl (own_w hw (i := 39) rfl)) Via.refl e2 F_first_a1 (g := (mkF m 50 #[uR a1, uL q2, uS, uI 1, uI 1, uI 0] [(.ref a1)])) rfl rfl (hb hby d13_50)
    obtain ⟨fs, hr, hrun, hended, hW, hsame⟩ := X6.leave (v := some (.long (fz + (1 : Int64)))) (fun h => by rw [Bd.returns] at h; cases h) Bd.notSynchronized
    refine ⟨_, _, pre4 _ ?_, hrun, hended, _, _, rfl, ?_, ⟨_, rfl⟩, hW, hsame.mono (by decide) (by decide)⟩
    · show Steps p.tables e below (T2.setTop (mkF m 31 #[uR a1, uL q2, uS, uI 0, uI 1, uI 0] [(.int (lcmpW x0 q2))])) _
      refine XS.ifNo X2.here hx rfl (hb hby d13_31) rfl ((if0 _ _).trans (tlt ((lw_lt _ _).mpr hc5)).2.1) ?_
      refine XS.iload X2.here hx rfl (hb hby d13_34) rfl ?_
      refine XS.iconst X2.here hx rfl (hb hby d13_36) ?_
      refine XS.iadd X2.here hx rfl (hb hby d13_37) rfl ?_
      refine XS.istoreN X2.here hx rfl (hb hby d13_38) rfl (l' := #[uR a1, uL q2, uS, uI 1, uI 1, uI 0]) rfl ?_
      refine XS.goto X2.here hx rfl (pc0 := 39) (pc' := 46) rfl (hb hby d13_39) (by decide) (by decide) ?_
      refine XS.goto X2.here hx rfl (pc0 := 46) (pc' := 8) rfl (hb hby d13_46) (by decide) (by decide) ?_
      refine XS.iloadN X2.here hx rfl (hb hby d13_8) rfl ?_
      refine XS.iload X2.here hx rfl (hb hby d13_9) rfl ?_
      show Steps p.tables e below (T2.setTop (mkF m 11 #[uR a1, uL q2, uS, uI 1, uI 1, uI 0] [(.int 1), (.int 1)])) _
      refine XS.icmpYes X2.here hx rfl (pc0 := 11) (pc' := 49) rfl (hb hby d13_11) rfl (flt (by decide : ¬ ((1 : Int32) < (1 : Int32)))).2.1 (by decide) (by decide) ?_
      refine XS.aloadN X2.here hx rfl (hb hby d13_49) rfl rfl ?_
      refine st6 _ ?_
      show Steps p.tables e below (T6.setTop (mkF m 53 #[uR a1, uL q2, uS, uI 1, uI 1, uI 0] [(.long fz)])) _
      refine XS.iloadN X6.here hx rfl (hb hby d13_53) rfl ?_
      refine XS.i2l X6.here hx rfl (hb hby d13_54) rfl ?_
      refine XS.ladd X6.here hx rfl (hb hby d13_55) rfl ?_
      exact retOut X6 hx (t := .long) Bd.returns rfl (Or.inr (Or.inl ⟨rfl, rfl, _, rfl⟩)) (hb hby d13_56) hr
    · show Qfr1 Z a1 q2 aM kM fz x0 x1 x2 x3 x4 x5 x6 x7 h0 n0 _ T6.heap _
      rw [e6]
      exact ⟨(by unfold ffr1; rw [if_pos hc5]), N0, rfl⟩
  ·  -- pc 31: not x0 < q2
    obtain ⟨T7, X7, e7, st7⟩ := getF X2 hx hZ hown (host := "") (Or.inl (own_w hw (i := 39) rfl)) Via.refl e2 F_first_a1 (g := (mkF m 50 #[uR a1, uL q2, uS, uI 0, uI 0, uI 0] [(.ref a1)])) rfl rfl (hb hby d13_50)
    obtain ⟨fs, hr, hrun, hended, hW, hsame⟩ := X7.leave (v := some (.long (fz + (0 : Int64)))) (fun h => by rw [Bd.returns] at h; cases h) Bd.notSynchronized
    refine ⟨_, _, pre4 _ ?_, hrun, hended, _, _, rfl, ?_, ⟨_, rfl⟩, hW, hsame.mono (by decide) (by decide)⟩
    · show Steps p.tables e below (T2.setTop (mkF m 31 #[uR a1, uL q2, uS, uI 0, uI 1, uI 0] [(.int (lcmpW x0 q2))])) _
      refine XS.ifYes X2.here hx rfl (pc0 := 31) (pc' := 42) rfl (hb hby d13_31) rfl ((if0 _ _).trans (flt (mt (lw_lt _ _).mp hc5)).2.1) (by decide) (by decide) ?_
      refine XS.iload X2.here hx rfl (hb hby d13_42) rfl ?_
      refine XS.istore X2.here hx rfl (hb hby d13_44) rfl (l' := #[uR a1, uL q2, uS, uI 0, uI 0, uI 0]) rfl ?_
      refine XS.goto X2.here hx rfl (pc0 := 46) (pc' := 8) rfl (hb hby d13_46) (by decide) (by decide) ?_
      refine XS.iloadN X2.here hx rfl (hb hby d13_8) rfl ?_
      refine XS.iload X2.here hx rfl (hb hby d13_9) rfl ?_
      show Steps p.tables e below (T2.setTop (mkF m 11 #[uR a1, uL q2, uS, uI 0, uI 0, uI 0] [(.int 0), (.int 0)])) _
      refine XS.icmpYes X2.here hx rfl (pc0 := 11) (pc' := 49) rfl (hb hby d13_11) rfl (flt (by decide : ¬ ((0 : Int32) < (0 : Int32)))).2.1 (by decide) (by decide) ?_
      refine XS.aloadN X2.here hx rfl (hb hby d13_49) rfl rfl ?_
      refine st7 _ ?_
      refine XS.iloadN X7.here hx rfl (hb hby d13_53) rfl ?_
      refine XS.i2l X7.here hx rfl (hb hby d13_54) rfl ?_
      refine XS.ladd X7.here hx rfl (hb hby d13_55) rfl ?_
      show Steps p.tables e below (T7.setTop (mkF m 56 #[uR a1, uL q2, uS, uI 0, uI 0, uI 0] [(.long (fz + (0 : Int64)))])) _
      exact retOut X7 hx (t := .long) Bd.returns rfl (Or.inr (Or.inl ⟨rfl, rfl, _, rfl⟩)) (hb hby d13_56) hr
    · show Qfr1 Z a1 q2 aM kM fz x0 x1 x2 x3 x4 x5 x6 x7 h0 n0 _ T7.heap _
      rw [e7]
      exact ⟨(by unfold ffr1; rw [if_neg hc5]), N0, rfl⟩
theorem ef_fr2 (m : MethodId) (x0 : Addr) (x1 : Int64) : entryFrame m #[(.ref x0), (.long x1)] 6 = mkF m 0 #[.val (.ref x0), .val (.long x1), .second, .unset, .unset, .unset] [] := by first | (simp [entryFrame, mkF, argsToLocals, Value.category]; done) | rfl
def ffr2 (q2 : Int64) (fz : Int64) (x0 : Int64) (x1 : Int64) : Int64 := if x1 < q2 then (fz + (2 : Int64)) else (if x0 < q2 then (fz + (1 : Int64)) else (fz + (0 : Int64)))
abbrev R_fr2 : Room := { frames := 0, cells := 0, slots := 0, locals := 0 }
def Qfr2 (Z : State) (a1 : Addr) (q2 : Int64) (aM : Addr) (kM : ClassId) (fz : Int64) (x0 : Int64) (x1 : Int64) (x2 : Int64) (x3 : Int64) (x4 : Int64) (x5 : Int64) (x6 : Int64) (x7 : Int64) (h0 : Heap) (n0 : Nat) (v : Option Value) (h : Heap) (L : List Loc) : Prop := v = some (.long (ffr2 q2 fz x0 x1)) ∧ Fr n0 L ∧ h = h0
set_option maxRecDepth 65536 in
set_option maxHeartbeats 40000000 in
theorem rmfr2 (l : Launch) (Z : State) (a0 : Array Value) (hw : ∀ d ∈ tables_1, d.before a0 Z = true) (ws : List Jvm.Cond) (a1 : Addr) (q2 : Int64) (aM : Addr) (kM : ClassId) (fz : Int64) (x0 : Int64) (x1 : Int64) (x2 : Int64) (x3 : Int64) (x4 : Int64) (x5 : Int64) (x6 : Int64) (x7 : Int64) (h0 : Heap) (n0 : Nat) (Z0 : n0 ≤ h0.size) (F_count_a1 : Fld Z h0 a1 KC "count" "I" (.int 2)) (F_first_a1 : Fld Z h0 a1 KC "first" "J" (.long fz)) (F_maxTimestampsSoFar_a1 : Fld Z h0 a1 KC KM "[J" (.ref aM)) (V_aM : Arv Z h0 aM kM .long (8 : Int32) [(.long x0), (.long x1), (.long x2), (.long x3), (.long x4), (.long x5), (.long x6), (.long x7)] (.long 0)) :
    MetFree l (⟨KC, "firstReaching", "(J)J"⟩ : MethodName) (head1 (Jvm.Cond.code (⟨KC, "firstReaching", "(J)J"⟩ : MethodName) prog_126_method_10_code 6 (some .long) :: ws) R_fr2) (fun a U => a = #[(.ref a1), (.long q2)] ∧ Z.Warmed39 U.vm ∧ U.heap = h0) (fun _ _ _ _ _ => True) (fun _ U o U' => ∃ v L, o = .returned v ∧ Qfr2 Z a1 q2 aM kM fz x0 x1 x2 x3 x4 x5 x6 x7 h0 n0 v U'.heap L ∧ FrameEnd U o U' L R_fr2.cells R_fr2.slots) := by
  refine MetFree.of_bodySF (plainFor_of_name pn_55) hisR ?_
  intro p e s m args below meth c s₁ Bd hml0 hP hK
  obtain ⟨rfl, hZ, hh⟩ := hP
  have hx := Bd.exec
  have hby := Bd.bytes
  have hml : c.maxLocals = 6 := hml0
  have hown : s.vm.findClass KC = some m.cls := findClass_of_methodNamed Bd.named
  have hnm := (name_of_methodNamed Bd.named Bd.method).1
  have X0 : Stand p l e R_fr2 s m #[(.ref a1), (.long q2)] below meth c s₁ [] 0 0 := Stand.of_body Bd
  have e0 : s₁.heap = h0 := by rw [← hh, Bd.state]; rfl
  have N0 := Fr.nil n0
  have pre0 : ∀ t, Steps p.tables e below (s₁.setTop (mkF m 0 #[uR a1, uL q2, uS, uU, uU, uU] [])) t → Steps p.tables e below (s₁.setTop (entryFrame m #[(.ref a1), (.long q2)] 6)) t := fun t k => castTop (ef_fr2 m a1 q2) k
  obtain ⟨T1, X1, e1, st1⟩ := getF X0 hx hZ hown (host := "") (Or.inl (own_w hw (i := 27) rfl)) Via.refl e0 F_count_a1 (g := (mkF m 3 #[uR a1, uL q2, uS, uI 0, uU, uU] [(.ref a1)])) rfl rfl (hb hby d13_3)
  obtain ⟨T2, X2, e2, st2⟩ := getF X1 hx hZ hown (host := "") (Or.inl (own_w hw (i := 15) rfl)) Via.refl e1 F_maxTimestampsSoFar_a1 (g := (mkF m 23 #[uR a1, uL q2, uS, uI 0, uI 2, uI 1] [(.ref a1)])) rfl rfl (hb hby d13_23)
  obtain ⟨car3, Aar3, qar3, Sar3, Nar3, Har3, Gar3⟩ := id V_aM
  have hinar3 : ¬ ((1 : Int32) < 0 ∨ car3.slots.size ≤ ((1 : Int32)).toNatClampNeg) := inb_of Sar3 ⟨by decide, by decide⟩
  have hatar3 : car3.slots[((1 : Int32)).toNatClampNeg]? = some (.long x1) := Har3.at hinar3 rfl
  have pre4 : ∀ t, Steps p.tables e below (T2.setTop (mkF m 31 #[uR a1, uL q2, uS, uI 0, uI 2, uI 1] [(.int (lcmpW x1 q2))])) t → Steps p.tables e below (s₁.setTop (entryFrame m #[(.ref a1), (.long q2)] 6)) t := fun t k => pre0 t (by
    show Steps p.tables e below (s₁.setTop (mkF m 0 #[uR a1, uL q2, uS, uU, uU, uU] [])) _
    refine XS.iconst X0.here hx rfl (hb hby d13_0) ?_
    refine XS.istoreN X0.here hx rfl (hb hby d13_1) rfl (l' := #[uR a1, uL q2, uS, uI 0, uU, uU]) rfl ?_
    refine XS.aloadN X0.here hx rfl (hb hby d13_2) rfl rfl ?_
    refine st1 _ ?_
    refine XS.istore X1.here hx rfl (hb hby d13_6) rfl (l' := #[uR a1, uL q2, uS, uI 0, uI 2, uU]) rfl ?_
    refine XS.iloadN X1.here hx rfl (hb hby d13_8) rfl ?_
    refine XS.iload X1.here hx rfl (hb hby d13_9) rfl ?_
    show Steps p.tables e below (T1.setTop (mkF m 11 #[uR a1, uL q2, uS, uI 0, uI 2, uU] [(.int 2), (.int 0)])) _
    refine XS.icmpNo X1.here hx rfl (hb hby d13_11) rfl (tlt (by decide : (0 : Int32) < (2 : Int32))).2.1 ?_
    refine XS.iloadN X1.here hx rfl (hb hby d13_14) rfl ?_
    refine XS.iload X1.here hx rfl (hb hby d13_15) rfl ?_
    refine XS.iadd X1.here hx rfl (hb hby d13_17) rfl ?_
    refine XS.iconst X1.here hx rfl (hb hby d13_18) ?_
    refine XS.iushr X1.here hx rfl (hb hby d13_19) rfl ?_
    refine XS.istore X1.here hx rfl (hb hby d13_20) rfl (l' := #[uR a1, uL q2, uS, uI 0, uI 2, uI 1]) rfl ?_
    refine XS.aloadN X1.here hx rfl (hb hby d13_22) rfl rfl ?_
    refine st2 _ ?_
    show Steps p.tables e below (T2.setTop (mkF m 26 #[uR a1, uL q2, uS, uI 0, uI 2, uI 1] [(.ref aM)])) _
    refine XS.iload X2.here hx rfl (hb hby d13_26) rfl ?_
    refine X2.laload hx (j := (1 : Int32)) (v := (.long x1)) (by rw [e2]; exact Aar3.1) (State.isArrayOf_alike hZ.alike Aar3.2.1) Aar3.2.2 hinar3 hatar3 (g := (mkF m 28 #[uR a1, uL q2, uS, uI 0, uI 2, uI 1] [(.int 1), (.ref aM)])) rfl rfl (hb hby d13_28) _ ?_
    refine XS.lloadN X2.here hx rfl (hb hby d13_29) rfl ?_
    refine XS.lcmp X2.here hx rfl (hb hby d13_30) rfl ?_
    exact k)
  by_cases hc5 : x1 < q2
  ·  -- pc 31: x1 < q2
    obtain ⟨T6, X6, e6, st6⟩ := getF X2 hx hZ hown (host := "") (Or.inl (own_w hw (i := 39) rfl)) Via.refl e2 F_first_a1 (g := (mkF m 50 #[uR a1, uL q2, uS, uI 2, uI 2, uI 1] [(.ref a1)])) rfl rfl (hb hby d13_50)
    obtain ⟨fs, hr, hrun, hended, hW, hsame⟩ := X6.leave (v := some (.long (fz + (2 : Int64)))) (fun h => by rw [Bd.returns] at h; cases h) Bd.notSynchronized
    refine ⟨_, _, pre4 _ ?_, hrun, hended, _, _, rfl, ?_, ⟨_, rfl⟩, hW, hsame.mono (by decide) (by decide)⟩
    · show Steps p.tables e below (T2.setTop (mkF m 31 #[uR a1, uL q2, uS, uI 0, uI 2, uI 1] [(.int (lcmpW x1 q2))])) _
      refine XS.ifNo X2.here hx rfl (hb hby d13_31) rfl ((if0 _ _).trans (tlt ((lw_lt _ _).mpr hc5)).2.1) ?_
      refine XS.iload X2.here hx rfl (hb hby d13_34) rfl ?_
      refine XS.iconst X2.here hx rfl (hb hby d13_36) ?_
      refine XS.iadd X2.here hx rfl (hb hby d13_37) rfl ?_
      refine XS.istoreN X2.here hx rfl (hb hby d13_38) rfl (l' := #[uR a1, uL q2, uS, uI 2, uI 2, uI 1]) rfl ?_
      refine XS.goto X2.here hx rfl (pc0 := 39) (pc' := 46) rfl (hb hby d13_39) (by decide) (by decide) ?_
      refine XS.goto X2.here hx rfl (pc0 := 46) (pc' := 8) rfl (hb hby d13_46) (by decide) (by decide) ?_
      refine XS.iloadN X2.here hx rfl (hb hby d13_8) rfl ?_
      refine XS.iload X2.here hx rfl (hb hby d13_9) rfl ?_
      show Steps p.tables e below (T2.setTop (mkF m 11 #[uR a1, uL q2, uS, uI 2, uI 2, uI 1] [(.int 2), (.int 2)])) _
      refine XS.icmpYes X2.here hx rfl (pc0 := 11) (pc' := 49) rfl (hb hby d13_11) rfl (flt (by decide : ¬ ((2 : Int32) < (2 : Int32)))).2.1 (by decide) (by decide) ?_
      refine XS.aloadN X2.here hx rfl (hb hby d13_49) rfl rfl ?_
      refine st6 _ ?_
      show Steps p.tables e below (T6.setTop (mkF m 53 #[uR a1, uL q2, uS, uI 2, uI 2, uI 1] [(.long fz)])) _
      refine XS.iloadN X6.here hx rfl (hb hby d13_53) rfl ?_
      refine XS.i2l X6.here hx rfl (hb hby d13_54) rfl ?_
      refine XS.ladd X6.here hx rfl (hb hby d13_55) rfl ?_
      exact retOut X6 hx (t := .long) Bd.returns rfl (Or.inr (Or.inl ⟨rfl, rfl, _, rfl⟩)) (hb hby d13_56) hr
    · show Qfr2 Z a1 q2 aM kM fz x0 x1 x2 x3 x4 x5 x6 x7 h0 n0 _ T6.heap _
      rw [e6]
      exact ⟨(by unfold ffr2; rw [if_pos hc5]), N0, rfl⟩
  ·  -- pc 31: not x1 < q2
    obtain ⟨T7, X7, e7, st7⟩ := getF X2 hx hZ hown (host := "") (Or.inl (own_w hw (i := 15) rfl)) Via.refl e2 F_maxTimestampsSoFar_a1 (g := (mkF m 23 #[uR a1, uL q2, uS, uI 0, uI 1, uI 0] [(.ref a1)])) rfl rfl (hb hby d13_23)
    obtain ⟨car8, Aar8, qar8, Sar8, Nar8, Har8, Gar8⟩ := id V_aM
    have hinar8 : ¬ ((0 : Int32) < 0 ∨ car8.slots.size ≤ ((0 : Int32)).toNatClampNeg) := inb_of Sar8 ⟨by decide, by decide⟩
    have hatar8 : car8.slots[((0 : Int32)).toNatClampNeg]? = some (.long x0) := Har8.at hinar8 rfl
    have pre9 : ∀ t, Steps p.tables e below (T7.setTop (mkF m 31 #[uR a1, uL q2, uS, uI 0, uI 1, uI 0] [(.int (lcmpW x0 q2))])) t → Steps p.tables e below (s₁.setTop (entryFrame m #[(.ref a1), (.long q2)] 6)) t := fun t k => pre4 t (by
      show Steps p.tables e below (T2.setTop (mkF m 31 #[uR a1, uL q2, uS, uI 0, uI 2, uI 1] [(.int (lcmpW x1 q2))])) _
      refine XS.ifYes X2.here hx rfl (pc0 := 31) (pc' := 42) rfl (hb hby d13_31) rfl ((if0 _ _).trans (flt (mt (lw_lt _ _).mp hc5)).2.1) (by decide) (by decide) ?_
      refine XS.iload X2.here hx rfl (hb hby d13_42) rfl ?_
      refine XS.istore X2.here hx rfl (hb hby d13_44) rfl (l' := #[uR a1, uL q2, uS, uI 0, uI 1, uI 1]) rfl ?_
      refine XS.goto X2.here hx rfl (pc0 := 46) (pc' := 8) rfl (hb hby d13_46) (by decide) (by decide) ?_
      refine XS.iloadN X2.here hx rfl (hb hby d13_8) rfl ?_
      refine XS.iload X2.here hx rfl (hb hby d13_9) rfl ?_
      show Steps p.tables e below (T2.setTop (mkF m 11 #[uR a1, uL q2, uS, uI 0, uI 1, uI 1] [(.int 1), (.int 0)])) _
      refine XS.icmpNo X2.here hx rfl (hb hby d13_11) rfl (tlt (by decide : (0 : Int32) < (1 : Int32))).2.1 ?_
      refine XS.iloadN X2.here hx rfl (hb hby d13_14) rfl ?_
      refine XS.iload X2.here hx rfl (hb hby d13_15) rfl ?_
      refine XS.iadd X2.here hx rfl (hb hby d13_17) rfl ?_
      refine XS.iconst X2.here hx rfl (hb hby d13_18) ?_
      refine XS.iushr X2.here hx rfl (hb hby d13_19) rfl ?_
      show Steps p.tables e below (T2.setTop (mkF m 20 #[uR a1, uL q2, uS, uI 0, uI 1, uI 1] [(.int 0)])) _
      refine XS.istore X2.here hx rfl (hb hby d13_20) rfl (l' := #[uR a1, uL q2, uS, uI 0, uI 1, uI 0]) rfl ?_
      refine XS.aloadN X2.here hx rfl (hb hby d13_22) rfl rfl ?_
      refine st7 _ ?_
      refine XS.iload X7.here hx rfl (hb hby d13_26) rfl ?_
      refine X7.laload hx (j := (0 : Int32)) (v := (.long x0)) (by rw [e7]; exact Aar8.1) (State.isArrayOf_alike hZ.alike Aar8.2.1) Aar8.2.2 hinar8 hatar8 (g := (mkF m 28 #[uR a1, uL q2, uS, uI 0, uI 1, uI 0] [(.int 0), (.ref aM)])) rfl rfl (hb hby d13_28) _ ?_
      refine XS.lloadN X7.here hx rfl (hb hby d13_29) rfl ?_
      refine XS.lcmp X7.here hx rfl (hb hby d13_30) rfl ?_
      exact k)
    by_cases hc10 : x0 < q2
    ·  -- pc 31: x0 < q2
      obtain ⟨T11, X11, e11, st11⟩ := getF X7 hx hZ hown (host := "") (Or.inl (own_w hw (i := 39) rfl)) Via.refl e7 F_first_a1 (g := (mkF m 50 #[uR a1, uL q2, uS, uI 1, uI 1, uI 0] [(.ref a1)])) rfl rfl (hb hby d13_50)
      obtain ⟨fs, hr, hrun, hended, hW, hsame⟩ := X11.leave (v := some (.long (fz + (1 : Int64)))) (fun h => by rw [Bd.returns] at h; cases h) Bd.notSynchronized
      refine ⟨_, _, pre9 _ ?_, hrun, hended, _, _, rfl, ?_, ⟨_, rfl⟩, hW, hsame.mono (by decide) (by decide)⟩
      · show Steps p.tables e below (T7.setTop (mkF m 31 #[uR a1, uL q2, uS, uI 0, uI 1, uI 0] [(.int (lcmpW x0 q2))])) _
        refine XS.ifNo X7.here hx rfl (hb hby d13_31) rfl ((if0 _ _).trans (tlt ((lw_lt _ _).mpr hc10)).2.1) ?_
        refine XS.iload X7.here hx rfl (hb hby d13_34) rfl ?_
        refine XS.iconst X7.here hx rfl (hb hby d13_36) ?_
        refine XS.iadd X7.here hx rfl (hb hby d13_37) rfl ?_
        refine XS.istoreN X7.here hx rfl (hb hby d13_38) rfl (l' := #[uR a1, uL q2, uS, uI 1, uI 1, uI 0]) rfl ?_
        refine XS.goto X7.here hx rfl (pc0 := 39) (pc' := 46) rfl (hb hby d13_39) (by decide) (by decide) ?_
        refine XS.goto X7.here hx rfl (pc0 := 46) (pc' := 8) rfl (hb hby d13_46) (by decide) (by decide) ?_
        refine XS.iloadN X7.here hx rfl (hb hby d13_8) rfl ?_
        refine XS.iload X7.here hx rfl (hb hby d13_9) rfl ?_
        show Steps p.tables e below (T7.setTop (mkF m 11 #[uR a1, uL q2, uS, uI 1, uI 1, uI 0] [(.int 1), (.int 1)])) _
        refine XS.icmpYes X7.here hx rfl (pc0 := 11) (pc' := 49) rfl (hb hby d13_11) rfl (flt (by decide : ¬ ((1 : Int32) < (1 : Int32)))).2.1 (by decide) (by decide) ?_
        refine XS.aloadN X7.here hx rfl (hb hby d13_49) rfl rfl ?_
        refine st11 _ ?_
        refine XS.iloadN X11.here hx rfl (hb hby d13_53) rfl ?_
        refine XS.i2l X11.here hx rfl (hb hby d13_54) rfl ?_
        refine XS.ladd X11.here hx rfl (hb hby d13_55) rfl ?_
        exact retOut X11 hx (t := .long) Bd.returns rfl (Or.inr (Or.inl ⟨rfl, rfl, _, rfl⟩)) (hb hby d13_56) hr
      · show Qfr2 Z a1 q2 aM kM fz x0 x1 x2 x3 x4 x5 x6 x7 h0 n0 _ T11.heap _
        rw [e11]
        exact ⟨(by unfold ffr2; rw [if_neg hc5, if_pos hc10]), N0, rfl⟩
    ·  -- pc 31: not x0 < q2
      obtain ⟨T12, X12, e12, st12⟩ := getF X7 hx hZ hown (host := "") (Or.inl (own_w hw (i := 39) rfl)) Via.refl e7 F_first_a1 (g := (mkF m 50 #[uR a1, uL q2, uS, uI 0, uI 0, uI 0] [(.ref a1)])) rfl rfl (hb hby d13_50)
      obtain ⟨fs, hr, hrun, hended, hW, hsame⟩ := X12.leave (v := some (.long (fz + (0 : Int64)))) (fun h => by rw [Bd.returns] at h; cases h) Bd.notSynchronized
      refine ⟨_, _, pre9 _ ?_, hrun, hended, _, _, rfl, ?_, ⟨_, rfl⟩, hW, hsame.mono (by decide) (by decide)⟩
      · show Steps p.tables e below (T7.setTop (mkF m 31 #[uR a1, uL q2, uS, uI 0, uI 1, uI 0] [(.int (lcmpW x0 q2))])) _
        refine XS.ifYes X7.here hx rfl (pc0 := 31) (pc' := 42) rfl (hb hby d13_31) rfl ((if0 _ _).trans (flt (mt (lw_lt _ _).mp hc10)).2.1) (by decide) (by decide) ?_
        refine XS.iload X7.here hx rfl (hb hby d13_42) rfl ?_
        refine XS.istore X7.here hx rfl (hb hby d13_44) rfl (l' := #[uR a1, uL q2, uS, uI 0, uI 0, uI 0]) rfl ?_
        refine XS.goto X7.here hx rfl (pc0 := 46) (pc' := 8) rfl (hb hby d13_46) (by decide) (by decide) ?_
        refine XS.iloadN X7.here hx rfl (hb hby d13_8) rfl ?_
        refine XS.iload X7.here hx rfl (hb hby d13_9) rfl ?_
        show Steps p.tables e below (T7.setTop (mkF m 11 #[uR a1, uL q2, uS, uI 0, uI 0, uI 0] [(.int 0), (.int 0)])) _
        refine XS.icmpYes X7.here hx rfl (pc0 := 11) (pc' := 49) rfl (hb hby d13_11) rfl (flt (by decide : ¬ ((0 : Int32) < (0 : Int32)))).2.1 (by decide) (by decide) ?_
        refine XS.aloadN X7.here hx rfl (hb hby d13_49) rfl rfl ?_
        refine st12 _ ?_
        show Steps p.tables e below (T12.setTop (mkF m 53 #[uR a1, uL q2, uS, uI 0, uI 0, uI 0] [(.long fz)])) _
        refine XS.iloadN X12.here hx rfl (hb hby d13_53) rfl ?_
        refine XS.i2l X12.here hx rfl (hb hby d13_54) rfl ?_
        refine XS.ladd X12.here hx rfl (hb hby d13_55) rfl ?_
        exact retOut X12 hx (t := .long) Bd.returns rfl (Or.inr (Or.inl ⟨rfl, rfl, _, rfl⟩)) (hb hby d13_56) hr
      · show Qfr2 Z a1 q2 aM kM fz x0 x1 x2 x3 x4 x5 x6 x7 h0 n0 _ T12.heap _
        rw [e12]
        exact ⟨(by unfold ffr2; rw [if_neg hc5, if_neg hc10]), N0, rfl⟩
theorem ef_fr3 (m : MethodId) (x0 : Addr) (x1 : Int64) : entryFrame m #[(.ref x0), (.long x1)] 6 = mkF m 0 #[.val (.ref x0), .val (.long x1), .second, .unset, .unset, .unset] [] := by first | (simp [entryFrame, mkF, argsToLocals, Value.category]; done) | rfl
def ffr3 (q2 : Int64) (fz : Int64) (x0 : Int64) (x1 : Int64) (x2 : Int64) : Int64 := if x1 < q2 then (if x2 < q2 then (fz + (3 : Int64)) else (fz + (2 : Int64))) else (if x0 < q2 then (fz + (1 : Int64)) else (fz + (0 : Int64)))
abbrev R_fr3 : Room := { frames := 0, cells := 0, slots := 0, locals := 0 }
def Qfr3 (Z : State) (a1 : Addr) (q2 : Int64) (aM : Addr) (kM : ClassId) (fz : Int64) (x0 : Int64) (x1 : Int64) (x2 : Int64) (x3 : Int64) (x4 : Int64) (x5 : Int64) (x6 : Int64) (x7 : Int64) (h0 : Heap) (n0 : Nat) (v : Option Value) (h : Heap) (L : List Loc) : Prop := v = some (.long (ffr3 q2 fz x0 x1 x2)) ∧ Fr n0 L ∧ h = h0
set_option maxRecDepth 65536 in
set_option maxHeartbeats 40000000 in
theorem rmfr3 (l : Launch) (Z : State) (a0 : Array Value) (hw : ∀ d ∈ tables_1, d.before a0 Z = true) (ws : List Jvm.Cond) (a1 : Addr) (q2 : Int64) (aM : Addr) (kM : ClassId) (fz : Int64) (x0 : Int64) (x1 : Int64) (x2 : Int64) (x3 : Int64) (x4 : Int64) (x5 : Int64) (x6 : Int64) (x7 : Int64) (h0 : Heap) (n0 : Nat) (Z0 : n0 ≤ h0.size) (F_count_a1 : Fld Z h0 a1 KC "count" "I" (.int 3)) (F_first_a1 : Fld Z h0 a1 KC "first" "J" (.long fz)) (F_maxTimestampsSoFar_a1 : Fld Z h0 a1 KC KM "[J" (.ref aM)) (V_aM : Arv Z h0 aM kM .long (8 : Int32) [(.long x0), (.long x1), (.long x2), (.long x3), (.long x4), (.long x5), (.long x6), (.long x7)] (.long 0)) :
    MetFree l (⟨KC, "firstReaching", "(J)J"⟩ : MethodName) (head1 (Jvm.Cond.code (⟨KC, "firstReaching", "(J)J"⟩ : MethodName) prog_126_method_10_code 6 (some .long) :: ws) R_fr3) (fun a U => a = #[(.ref a1), (.long q2)] ∧ Z.Warmed39 U.vm ∧ U.heap = h0) (fun _ _ _ _ _ => True) (fun _ U o U' => ∃ v L, o = .returned v ∧ Qfr3 Z a1 q2 aM kM fz x0 x1 x2 x3 x4 x5 x6 x7 h0 n0 v U'.heap L ∧ FrameEnd U o U' L R_fr3.cells R_fr3.slots) := by
  refine MetFree.of_bodySF (plainFor_of_name pn_55) hisR ?_
  intro p e s m args below meth c s₁ Bd hml0 hP hK
  obtain ⟨rfl, hZ, hh⟩ := hP
  have hx := Bd.exec
  have hby := Bd.bytes
  have hml : c.maxLocals = 6 := hml0
  have hown : s.vm.findClass KC = some m.cls := findClass_of_methodNamed Bd.named
  have hnm := (name_of_methodNamed Bd.named Bd.method).1
  have X0 : Stand p l e R_fr3 s m #[(.ref a1), (.long q2)] below meth c s₁ [] 0 0 := Stand.of_body Bd
  have e0 : s₁.heap = h0 := by rw [← hh, Bd.state]; rfl
  have N0 := Fr.nil n0
  have pre0 : ∀ t, Steps p.tables e below (s₁.setTop (mkF m 0 #[uR a1, uL q2, uS, uU, uU, uU] [])) t → Steps p.tables e below (s₁.setTop (entryFrame m #[(.ref a1), (.long q2)] 6)) t := fun t k => castTop (ef_fr3 m a1 q2) k
  obtain ⟨T1, X1, e1, st1⟩ := getF X0 hx hZ hown (host := "") (Or.inl (own_w hw (i := 27) rfl)) Via.refl e0 F_count_a1 (g := (mkF m 3 #[uR a1, uL q2, uS, uI 0, uU, uU] [(.ref a1)])) rfl rfl (hb hby d13_3)
  obtain ⟨T2, X2, e2, st2⟩ := getF X1 hx hZ hown (host := "") (Or.inl (own_w hw (i := 15) rfl)) Via.refl e1 F_maxTimestampsSoFar_a1 (g := (mkF m 23 #[uR a1, uL q2, uS, uI 0, uI 3, uI 1] [(.ref a1)])) rfl rfl (hb hby d13_23)
  obtain ⟨car3, Aar3, qar3, Sar3, Nar3, Har3, Gar3⟩ := id V_aM
  have hinar3 : ¬ ((1 : Int32) < 0 ∨ car3.slots.size ≤ ((1 : Int32)).toNatClampNeg) := inb_of Sar3 ⟨by decide, by decide⟩
  have hatar3 : car3.slots[((1 : Int32)).toNatClampNeg]? = some (.long x1) := Har3.at hinar3 rfl
  have pre4 : ∀ t, Steps p.tables e below (T2.setTop (mkF m 31 #[uR a1, uL q2, uS, uI 0, uI 3, uI 1] [(.int (lcmpW x1 q2))])) t → Steps p.tables e below (s₁.setTop (entryFrame m #[(.ref a1), (.long q2)] 6)) t := fun t k => pre0 t (by
    show Steps p.tables e below (s₁.setTop (mkF m 0 #[uR a1, uL q2, uS, uU, uU, uU] [])) _
    refine XS.iconst X0.here hx rfl (hb hby d13_0) ?_
    refine XS.istoreN X0.here hx rfl (hb hby d13_1) rfl (l' := #[uR a1, uL q2, uS, uI 0, uU, uU]) rfl ?_
    refine XS.aloadN X0.here hx rfl (hb hby d13_2) rfl rfl ?_
    refine st1 _ ?_
    refine XS.istore X1.here hx rfl (hb hby d13_6) rfl (l' := #[uR a1, uL q2, uS, uI 0, uI 3, uU]) rfl ?_
    refine XS.iloadN X1.here hx rfl (hb hby d13_8) rfl ?_
    refine XS.iload X1.here hx rfl (hb hby d13_9) rfl ?_
    show Steps p.tables e below (T1.setTop (mkF m 11 #[uR a1, uL q2, uS, uI 0, uI 3, uU] [(.int 3), (.int 0)])) _
    refine XS.icmpNo X1.here hx rfl (hb hby d13_11) rfl (tlt (by decide : (0 : Int32) < (3 : Int32))).2.1 ?_
    refine XS.iloadN X1.here hx rfl (hb hby d13_14) rfl ?_
    refine XS.iload X1.here hx rfl (hb hby d13_15) rfl ?_
    refine XS.iadd X1.here hx rfl (hb hby d13_17) rfl ?_
    refine XS.iconst X1.here hx rfl (hb hby d13_18) ?_
    refine XS.iushr X1.here hx rfl (hb hby d13_19) rfl ?_
    refine XS.istore X1.here hx rfl (hb hby d13_20) rfl (l' := #[uR a1, uL q2, uS, uI 0, uI 3, uI 1]) rfl ?_
    refine XS.aloadN X1.here hx rfl (hb hby d13_22) rfl rfl ?_
    refine st2 _ ?_
    show Steps p.tables e below (T2.setTop (mkF m 26 #[uR a1, uL q2, uS, uI 0, uI 3, uI 1] [(.ref aM)])) _
    refine XS.iload X2.here hx rfl (hb hby d13_26) rfl ?_
    refine X2.laload hx (j := (1 : Int32)) (v := (.long x1)) (by rw [e2]; exact Aar3.1) (State.isArrayOf_alike hZ.alike Aar3.2.1) Aar3.2.2 hinar3 hatar3 (g := (mkF m 28 #[uR a1, uL q2, uS, uI 0, uI 3, uI 1] [(.int 1), (.ref aM)])) rfl rfl (hb hby d13_28) _ ?_
    refine XS.lloadN X2.here hx rfl (hb hby d13_29) rfl ?_
    refine XS.lcmp X2.here hx rfl (hb hby d13_30) rfl ?_
    exact k)
  by_cases hc5 : x1 < q2
  ·  -- pc 31: x1 < q2
    obtain ⟨T6, X6, e6, st6⟩ := getF X2 hx hZ hown (host := "") (Or.inl (own_w hw (i := 15) rfl)) Via.refl e2 F_maxTimestampsSoFar_a1 (g := (mkF m 23 #[uR a1, uL q2, uS, uI 2, uI 3, uI 2] [(.ref a1)])) rfl rfl (hb hby d13_23)
    obtain ⟨car7, Aar7, qar7, Sar7, Nar7, Har7, Gar7⟩ := id V_aM
    have hinar7 : ¬ ((2 : Int32) < 0 ∨ car7.slots.size ≤ ((2 : Int32)).toNatClampNeg) := inb_of Sar7 ⟨by decide, by decide⟩
    have hatar7 : car7.slots[((2 : Int32)).toNatClampNeg]? = some (.long x2) := Har7.at hinar7 rfl
    have pre8 : ∀ t, Steps p.tables e below (T6.setTop (mkF m 31 #[uR a1, uL q2, uS, uI 2, uI 3, uI 2] [(.int (lcmpW x2 q2))])) t → Steps p.tables e below (s₁.setTop (entryFrame m #[(.ref a1), (.long q2)] 6)) t := fun t k => pre4 t (by
      show Steps p.tables e below (T2.setTop (mkF m 31 #[uR a1, uL q2, uS, uI 0, uI 3, uI 1] [(.int (lcmpW x1 q2))])) _
      refine XS.ifNo X2.here hx rfl (hb hby d13_31) rfl ((if0 _ _).trans (tlt ((lw_lt _ _).mpr hc5)).2.1) ?_
      refine XS.iload X2.here hx rfl (hb hby d13_34) rfl ?_
      refine XS.iconst X2.here hx rfl (hb hby d13_36) ?_
      refine XS.iadd X2.here hx rfl (hb hby d13_37) rfl ?_
      refine XS.istoreN X2.here hx rfl (hb hby d13_38) rfl (l' := #[uR a1, uL q2, uS, uI 2, uI 3, uI 1]) rfl ?_
      refine XS.goto X2.here hx rfl (pc0 := 39) (pc' := 46) rfl (hb hby d13_39) (by decide) (by decide) ?_
      refine XS.goto X2.here hx rfl (pc0 := 46) (pc' := 8) rfl (hb hby d13_46) (by decide) (by decide) ?_
      refine XS.iloadN X2.here hx rfl (hb hby d13_8) rfl ?_
      refine XS.iload X2.here hx rfl (hb hby d13_9) rfl ?_
      show Steps p.tables e below (T2.setTop (mkF m 11 #[uR a1, uL q2, uS, uI 2, uI 3, uI 1] [(.int 3), (.int 2)])) _
      refine XS.icmpNo X2.here hx rfl (hb hby d13_11) rfl (tlt (by decide : (2 : Int32) < (3 : Int32))).2.1 ?_
      refine XS.iloadN X2.here hx rfl (hb hby d13_14) rfl ?_
      refine XS.iload X2.here hx rfl (hb hby d13_15) rfl ?_
      show Steps p.tables e below (T2.setTop (mkF m 17 #[uR a1, uL q2, uS, uI 2, uI 3, uI 1] [(.int 3), (.int 2)])) _
      refine XS.iadd X2.here hx rfl (hb hby d13_17) rfl ?_
      refine XS.iconst X2.here hx rfl (hb hby d13_18) ?_
      refine XS.iushr X2.here hx rfl (hb hby d13_19) rfl ?_
      refine XS.istore X2.here hx rfl (hb hby d13_20) rfl (l' := #[uR a1, uL q2, uS, uI 2, uI 3, uI 2]) rfl ?_
      refine XS.aloadN X2.here hx rfl (hb hby d13_22) rfl rfl ?_
      refine st6 _ ?_
      refine XS.iload X6.here hx rfl (hb hby d13_26) rfl ?_
      refine X6.laload hx (j := (2 : Int32)) (v := (.long x2)) (by rw [e6]; exact Aar7.1) (State.isArrayOf_alike hZ.alike Aar7.2.1) Aar7.2.2 hinar7 hatar7 (g := (mkF m 28 #[uR a1, uL q2, uS, uI 2, uI 3, uI 2] [(.int 2), (.ref aM)])) rfl rfl (hb hby d13_28) _ ?_
      refine XS.lloadN X6.here hx rfl (hb hby d13_29) rfl ?_
      refine XS.lcmp X6.here hx rfl (hb hby d13_30) rfl ?_
      exact k)
    by_cases hc9 : x2 < q2
    ·  -- pc 31: x2 < q2
      obtain ⟨T10, X10, e10, st10⟩ := getF X6 hx hZ hown (host := "") (Or.inl (own_w hw (i := 39) rfl)) Via.refl e6 F_first_a1 (g := (mkF m 50 #[uR a1, uL q2, uS, uI 3, uI 3, uI 2] [(.ref a1)])) rfl rfl (hb hby d13_50)
      obtain ⟨fs, hr, hrun, hended, hW, hsame⟩ := X10.leave (v := some (.long (fz + (3 : Int64)))) (fun h => by rw [Bd.returns] at h; cases h) Bd.notSynchronized
      refine ⟨_, _, pre8 _ ?_, hrun, hended, _, _, rfl, ?_, ⟨_, rfl⟩, hW, hsame.mono (by decide) (by decide)⟩
      · show Steps p.tables e below (T6.setTop (mkF m 31 #[uR a1, uL q2, uS, uI 2, uI 3, uI 2] [(.int (lcmpW x2 q2))])) _
        refine XS.ifNo X6.here hx rfl (hb hby d13_31) rfl ((if0 _ _).trans (tlt ((lw_lt _ _).mpr hc9)).2.1) ?_
        refine XS.iload X6.here hx rfl (hb hby d13_34) rfl ?_
        refine XS.iconst X6.here hx rfl (hb hby d13_36) ?_
        refine XS.iadd X6.here hx rfl (hb hby d13_37) rfl ?_
        refine XS.istoreN X6.here hx rfl (hb hby d13_38) rfl (l' := #[uR a1, uL q2, uS, uI 3, uI 3, uI 2]) rfl ?_
        refine XS.goto X6.here hx rfl (pc0 := 39) (pc' := 46) rfl (hb hby d13_39) (by decide) (by decide) ?_
        show Steps p.tables e below (T6.setTop (mkF m 46 #[uR a1, uL q2, uS, uI 3, uI 3, uI 2] [])) _
        refine XS.goto X6.here hx rfl (pc0 := 46) (pc' := 8) rfl (hb hby d13_46) (by decide) (by decide) ?_
        refine XS.iloadN X6.here hx rfl (hb hby d13_8) rfl ?_
        refine XS.iload X6.here hx rfl (hb hby d13_9) rfl ?_
        show Steps p.tables e below (T6.setTop (mkF m 11 #[uR a1, uL q2, uS, uI 3, uI 3, uI 2] [(.int 3), (.int 3)])) _
        refine XS.icmpYes X6.here hx rfl (pc0 := 11) (pc' := 49) rfl (hb hby d13_11) rfl (flt (by decide : ¬ ((3 : Int32) < (3 : Int32)))).2.1 (by decide) (by decide) ?_
        refine XS.aloadN X6.here hx rfl (hb hby d13_49) rfl rfl ?_
        refine st10 _ ?_
        refine XS.iloadN X10.here hx rfl (hb hby d13_53) rfl ?_
        refine XS.i2l X10.here hx rfl (hb hby d13_54) rfl ?_
        refine XS.ladd X10.here hx rfl (hb hby d13_55) rfl ?_
        exact retOut X10 hx (t := .long) Bd.returns rfl (Or.inr (Or.inl ⟨rfl, rfl, _, rfl⟩)) (hb hby d13_56) hr
      · show Qfr3 Z a1 q2 aM kM fz x0 x1 x2 x3 x4 x5 x6 x7 h0 n0 _ T10.heap _
        rw [e10]
        exact ⟨(by unfold ffr3; rw [if_pos hc5, if_pos hc9]), N0, rfl⟩
    ·  -- pc 31: not x2 < q2
      obtain ⟨T11, X11, e11, st11⟩ := getF X6 hx hZ hown (host := "") (Or.inl (own_w hw (i := 39) rfl)) Via.refl e6 F_first_a1 (g := (mkF m 50 #[uR a1, uL q2, uS, uI 2, uI 2, uI 2] [(.ref a1)])) rfl rfl (hb hby d13_50)
      obtain ⟨fs, hr, hrun, hended, hW, hsame⟩ := X11.leave (v := some (.long (fz + (2 : Int64)))) (fun h => by rw [Bd.returns] at h; cases h) Bd.notSynchronized
      refine ⟨_, _, pre8 _ ?_, hrun, hended, _, _, rfl, ?_, ⟨_, rfl⟩, hW, hsame.mono (by decide) (by decide)⟩
      · show Steps p.tables e below (T6.setTop (mkF m 31 #[uR a1, uL q2, uS, uI 2, uI 3, uI 2] [(.int (lcmpW x2 q2))])) _
        refine XS.ifYes X6.here hx rfl (pc0 := 31) (pc' := 42) rfl (hb hby d13_31) rfl ((if0 _ _).trans (flt (mt (lw_lt _ _).mp hc9)).2.1) (by decide) (by decide) ?_
        refine XS.iload X6.here hx rfl (hb hby d13_42) rfl ?_
        refine XS.istore X6.here hx rfl (hb hby d13_44) rfl (l' := #[uR a1, uL q2, uS, uI 2, uI 2, uI 2]) rfl ?_
        refine XS.goto X6.here hx rfl (pc0 := 46) (pc' := 8) rfl (hb hby d13_46) (by decide) (by decide) ?_
        refine XS.iloadN X6.here hx rfl (hb hby d13_8) rfl ?_
        refine XS.iload X6.here hx rfl (hb hby d13_9) rfl ?_
        show Steps p.tables e below (T6.setTop (mkF m 11 #[uR a1, uL q2, uS, uI 2, uI 2, uI 2] [(.int 2), (.int 2)])) _
        refine XS.icmpYes X6.here hx rfl (pc0 := 11) (pc' := 49) rfl (hb hby d13_11) rfl (flt (by decide : ¬ ((2 : Int32) < (2 : Int32)))).2.1 (by decide) (by decide) ?_
        refine XS.aloadN X6.here hx rfl (hb hby d13_49) rfl rfl ?_
        refine st11 _ ?_
        refine XS.iloadN X11.here hx rfl (hb hby d13_53) rfl ?_
        refine XS.i2l X11.here hx rfl (hb hby d13_54) rfl ?_
        refine XS.ladd X11.here hx rfl (hb hby d13_55) rfl ?_
        exact retOut X11 hx (t := .long) Bd.returns rfl (Or.inr (Or.inl ⟨rfl, rfl, _, rfl⟩)) (hb hby d13_56) hr
      · show Qfr3 Z a1 q2 aM kM fz x0 x1 x2 x3 x4 x5 x6 x7 h0 n0 _ T11.heap _
        rw [e11]
        exact ⟨(by unfold ffr3; rw [if_pos hc5, if_neg hc9]), N0, rfl⟩
  ·  -- pc 31: not x1 < q2
    obtain ⟨T12, X12, e12, st12⟩ := getF X2 hx hZ hown (host := "") (Or.inl (own_w hw (i := 15) rfl)) Via.refl e2 F_maxTimestampsSoFar_a1 (g := (mkF m 23 #[uR a1, uL q2, uS, uI 0, uI 1, uI 0] [(.ref a1)])) rfl rfl (hb hby d13_23)
    obtain ⟨car13, Aar13, qar13, Sar13, Nar13, Har13, Gar13⟩ := id V_aM
    have hinar13 : ¬ ((0 : Int32) < 0 ∨ car13.slots.size ≤ ((0 : Int32)).toNatClampNeg) := inb_of Sar13 ⟨by decide, by decide⟩
    have hatar13 : car13.slots[((0 : Int32)).toNatClampNeg]? = some (.long x0) := Har13.at hinar13 rfl
    have pre14 : ∀ t, Steps p.tables e below (T12.setTop (mkF m 31 #[uR a1, uL q2, uS, uI 0, uI 1, uI 0] [(.int (lcmpW x0 q2))])) t → Steps p.tables e below (s₁.setTop (entryFrame m #[(.ref a1), (.long q2)] 6)) t := fun t k => pre4 t (by
      show Steps p.tables e below (T2.setTop (mkF m 31 #[uR a1, uL q2, uS, uI 0, uI 3, uI 1] [(.int (lcmpW x1 q2))])) _
      refine XS.ifYes X2.here hx rfl (pc0 := 31) (pc' := 42) rfl (hb hby d13_31) rfl ((if0 _ _).trans (flt (mt (lw_lt _ _).mp hc5)).2.1) (by decide) (by decide) ?_
      refine XS.iload X2.here hx rfl (hb hby d13_42) rfl ?_
      refine XS.istore X2.here hx rfl (hb hby d13_44) rfl (l' := #[uR a1, uL q2, uS, uI 0, uI 1, uI 1]) rfl ?_
      refine XS.goto X2.here hx rfl (pc0 := 46) (pc' := 8) rfl (hb hby d13_46) (by decide) (by decide) ?_
      refine XS.iloadN X2.here hx rfl (hb hby d13_8) rfl ?_
      refine XS.iload X2.here hx rfl (hb hby d13_9) rfl ?_
      show Steps p.tables e below (T2.setTop (mkF m 11 #[uR a1, uL q2, uS, uI 0, uI 1, uI 1] [(.int 1), (.int 0)])) _
      refine XS.icmpNo X2.here hx rfl (hb hby d13_11) rfl (tlt (by decide : (0 : Int32) < (1 : Int32))).2.1 ?_
      refine XS.iloadN X2.here hx rfl (hb hby d13_14) rfl ?_
      refine XS.iload X2.here hx rfl (hb hby d13_15) rfl ?_
      refine XS.iadd X2.here hx rfl (hb hby d13_17) rfl ?_
      refine XS.iconst X2.here hx rfl (hb hby d13_18) ?_
      refine XS.iushr X2.here hx rfl (hb hby d13_19) rfl ?_
      show Steps p.tables e below (T2.setTop (mkF m 20 #[uR a1, uL q2, uS, uI 0, uI 1, uI 1] [(.int 0)])) _
      refine XS.istore X2.here hx rfl (hb hby d13_20) rfl (l' := #[uR a1, uL q2, uS, uI 0, uI 1, uI 0]) rfl ?_
      refine XS.aloadN X2.here hx rfl (hb hby d13_22) rfl rfl ?_
      refine st12 _ ?_
      refine XS.iload X12.here hx rfl (hb hby d13_26) rfl ?_
      refine X12.laload hx (j := (0 : Int32)) (v := (.long x0)) (by rw [e12]; exact Aar13.1) (State.isArrayOf_alike hZ.alike Aar13.2.1) Aar13.2.2 hinar13 hatar13 (g := (mkF m 28 #[uR a1, uL q2, uS, uI 0, uI 1, uI 0] [(.int 0), (.ref aM)])) rfl rfl (hb hby d13_28) _ ?_
      refine XS.lloadN X12.here hx rfl (hb hby d13_29) rfl ?_
      refine XS.lcmp X12.here hx rfl (hb hby d13_30) rfl ?_
      exact k)
    by_cases hc15 : x0 < q2
    ·  -- pc 31: x0 < q2
      obtain ⟨T16, X16, e16, st16⟩ := getF X12 hx hZ hown (host := "") (Or.inl (own_w hw (i := 39) rfl)) Via.refl e12 F_first_a1 (g := (mkF m 50 #[uR a1, uL q2, uS, uI 1, uI 1, uI 0] [(.ref a1)])) rfl rfl (hb hby d13_50)
      obtain ⟨fs, hr, hrun, hended, hW, hsame⟩ := X16.leave (v := some (.long (fz + (1 : Int64)))) (fun h => by rw [Bd.returns] at h; cases h) Bd.notSynchronized
      refine ⟨_, _, pre14 _ ?_, hrun, hended, _, _, rfl, ?_, ⟨_, rfl⟩, hW, hsame.mono (by decide) (by decide)⟩
      · show Steps p.tables e below (T12.setTop (mkF m 31 #[uR a1, uL q2, uS, uI 0, uI 1, uI 0] [(.int (lcmpW x0 q2))])) _
        refine XS.ifNo X12.here hx rfl (hb hby d13_31) rfl ((if0 _ _).trans (tlt ((lw_lt _ _).mpr hc15)).2.1) ?_
        refine XS.iload X12.here hx rfl (hb hby d13_34) rfl ?_
        refine XS.iconst X12.here hx rfl (hb hby d13_36) ?_
        refine XS.iadd X12.here hx rfl (hb hby d13_37) rfl ?_
        refine XS.istoreN X12.here hx rfl (hb hby d13_38) rfl (l' := #[uR a1, uL q2, uS, uI 1, uI 1, uI 0]) rfl ?_
        refine XS.goto X12.here hx rfl (pc0 := 39) (pc' := 46) rfl (hb hby d13_39) (by decide) (by decide) ?_
        refine XS.goto X12.here hx rfl (pc0 := 46) (pc' := 8) rfl (hb hby d13_46) (by decide) (by decide) ?_
        refine XS.iloadN X12.here hx rfl (hb hby d13_8) rfl ?_
        refine XS.iload X12.here hx rfl (hb hby d13_9) rfl ?_
        show Steps p.tables e below (T12.setTop (mkF m 11 #[uR a1, uL q2, uS, uI 1, uI 1, uI 0] [(.int 1), (.int 1)])) _
        refine XS.icmpYes X12.here hx rfl (pc0 := 11) (pc' := 49) rfl (hb hby d13_11) rfl (flt (by decide : ¬ ((1 : Int32) < (1 : Int32)))).2.1 (by decide) (by decide) ?_
        refine XS.aloadN X12.here hx rfl (hb hby d13_49) rfl rfl ?_
        refine st16 _ ?_
        refine XS.iloadN X16.here hx rfl (hb hby d13_53) rfl ?_
        refine XS.i2l X16.here hx rfl (hb hby d13_54) rfl ?_
        refine XS.ladd X16.here hx rfl (hb hby d13_55) rfl ?_
        exact retOut X16 hx (t := .long) Bd.returns rfl (Or.inr (Or.inl ⟨rfl, rfl, _, rfl⟩)) (hb hby d13_56) hr
      · show Qfr3 Z a1 q2 aM kM fz x0 x1 x2 x3 x4 x5 x6 x7 h0 n0 _ T16.heap _
        rw [e16]
        exact ⟨(by unfold ffr3; rw [if_neg hc5, if_pos hc15]), N0, rfl⟩
    ·  -- pc 31: not x0 < q2
      obtain ⟨T17, X17, e17, st17⟩ := getF X12 hx hZ hown (host := "") (Or.inl (own_w hw (i := 39) rfl)) Via.refl e12 F_first_a1 (g := (mkF m 50 #[uR a1, uL q2, uS, uI 0, uI 0, uI 0] [(.ref a1)])) rfl rfl (hb hby d13_50)
      obtain ⟨fs, hr, hrun, hended, hW, hsame⟩ := X17.leave (v := some (.long (fz + (0 : Int64)))) (fun h => by rw [Bd.returns] at h; cases h) Bd.notSynchronized
      refine ⟨_, _, pre14 _ ?_, hrun, hended, _, _, rfl, ?_, ⟨_, rfl⟩, hW, hsame.mono (by decide) (by decide)⟩
      · show Steps p.tables e below (T12.setTop (mkF m 31 #[uR a1, uL q2, uS, uI 0, uI 1, uI 0] [(.int (lcmpW x0 q2))])) _
        refine XS.ifYes X12.here hx rfl (pc0 := 31) (pc' := 42) rfl (hb hby d13_31) rfl ((if0 _ _).trans (flt (mt (lw_lt _ _).mp hc15)).2.1) (by decide) (by decide) ?_
        refine XS.iload X12.here hx rfl (hb hby d13_42) rfl ?_
        refine XS.istore X12.here hx rfl (hb hby d13_44) rfl (l' := #[uR a1, uL q2, uS, uI 0, uI 0, uI 0]) rfl ?_
        refine XS.goto X12.here hx rfl (pc0 := 46) (pc' := 8) rfl (hb hby d13_46) (by decide) (by decide) ?_
        refine XS.iloadN X12.here hx rfl (hb hby d13_8) rfl ?_
        refine XS.iload X12.here hx rfl (hb hby d13_9) rfl ?_
        show Steps p.tables e below (T12.setTop (mkF m 11 #[uR a1, uL q2, uS, uI 0, uI 0, uI 0] [(.int 0), (.int 0)])) _
        refine XS.icmpYes X12.here hx rfl (pc0 := 11) (pc' := 49) rfl (hb hby d13_11) rfl (flt (by decide : ¬ ((0 : Int32) < (0 : Int32)))).2.1 (by decide) (by decide) ?_
        refine XS.aloadN X12.here hx rfl (hb hby d13_49) rfl rfl ?_
        refine st17 _ ?_
        show Steps p.tables e below (T17.setTop (mkF m 53 #[uR a1, uL q2, uS, uI 0, uI 0, uI 0] [(.long fz)])) _
        refine XS.iloadN X17.here hx rfl (hb hby d13_53) rfl ?_
        refine XS.i2l X17.here hx rfl (hb hby d13_54) rfl ?_
        refine XS.ladd X17.here hx rfl (hb hby d13_55) rfl ?_
        exact retOut X17 hx (t := .long) Bd.returns rfl (Or.inr (Or.inl ⟨rfl, rfl, _, rfl⟩)) (hb hby d13_56) hr
      · show Qfr3 Z a1 q2 aM kM fz x0 x1 x2 x3 x4 x5 x6 x7 h0 n0 _ T17.heap _
        rw [e17]
        exact ⟨(by unfold ffr3; rw [if_neg hc5, if_neg hc15]), N0, rfl⟩
theorem ef_fr4 (m : MethodId) (x0 : Addr) (x1 : Int64) : entryFrame m #[(.ref x0), (.long x1)] 6 = mkF m 0 #[.val (.ref x0), .val (.long x1), .second, .unset, .unset, .unset] [] := by first | (simp [entryFrame, mkF, argsToLocals, Value.category]; done) | rfl
def ffr4 (q2 : Int64) (fz : Int64) (x0 : Int64) (x1 : Int64) (x2 : Int64) (x3 : Int64) : Int64 := if x2 < q2 then (if x3 < q2 then (fz + (4 : Int64)) else (fz + (3 : Int64))) else (if x1 < q2 then (fz + (2 : Int64)) else (if x0 < q2 then (fz + (1 : Int64)) else (fz + (0 : Int64))))
abbrev R_fr4 : Room := { frames := 0, cells := 0, slots := 0, locals := 0 }
def Qfr4 (Z : State) (a1 : Addr) (q2 : Int64) (aM : Addr) (kM : ClassId) (fz : Int64) (x0 : Int64) (x1 : Int64) (x2 : Int64) (x3 : Int64) (x4 : Int64) (x5 : Int64) (x6 : Int64) (x7 : Int64) (h0 : Heap) (n0 : Nat) (v : Option Value) (h : Heap) (L : List Loc) : Prop := v = some (.long (ffr4 q2 fz x0 x1 x2 x3)) ∧ Fr n0 L ∧ h = h0
set_option maxRecDepth 65536 in
set_option maxHeartbeats 40000000 in
theorem rmfr4 (l : Launch) (Z : State) (a0 : Array Value) (hw : ∀ d ∈ tables_1, d.before a0 Z = true) (ws : List Jvm.Cond) (a1 : Addr) (q2 : Int64) (aM : Addr) (kM : ClassId) (fz : Int64) (x0 : Int64) (x1 : Int64) (x2 : Int64) (x3 : Int64) (x4 : Int64) (x5 : Int64) (x6 : Int64) (x7 : Int64) (h0 : Heap) (n0 : Nat) (Z0 : n0 ≤ h0.size) (F_count_a1 : Fld Z h0 a1 KC "count" "I" (.int 4)) (F_first_a1 : Fld Z h0 a1 KC "first" "J" (.long fz)) (F_maxTimestampsSoFar_a1 : Fld Z h0 a1 KC KM "[J" (.ref aM)) (V_aM : Arv Z h0 aM kM .long (8 : Int32) [(.long x0), (.long x1), (.long x2), (.long x3), (.long x4), (.long x5), (.long x6), (.long x7)] (.long 0)) :
    MetFree l (⟨KC, "firstReaching", "(J)J"⟩ : MethodName) (head1 (Jvm.Cond.code (⟨KC, "firstReaching", "(J)J"⟩ : MethodName) prog_126_method_10_code 6 (some .long) :: ws) R_fr4) (fun a U => a = #[(.ref a1), (.long q2)] ∧ Z.Warmed39 U.vm ∧ U.heap = h0) (fun _ _ _ _ _ => True) (fun _ U o U' => ∃ v L, o = .returned v ∧ Qfr4 Z a1 q2 aM kM fz x0 x1 x2 x3 x4 x5 x6 x7 h0 n0 v U'.heap L ∧ FrameEnd U o U' L R_fr4.cells R_fr4.slots) := by
  refine MetFree.of_bodySF (plainFor_of_name pn_55) hisR ?_
  intro p e s m args below meth c s₁ Bd hml0 hP hK
  obtain ⟨rfl, hZ, hh⟩ := hP
  have hx := Bd.exec
  have hby := Bd.bytes
  have hml : c.maxLocals = 6 := hml0
  have hown : s.vm.findClass KC = some m.cls := findClass_of_methodNamed Bd.named
  have hnm := (name_of_methodNamed Bd.named Bd.method).1
  have X0 : Stand p l e R_fr4 s m #[(.ref a1), (.long q2)] below meth c s₁ [] 0 0 := Stand.of_body Bd
  have e0 : s₁.heap = h0 := by rw [← hh, Bd.state]; rfl
  have N0 := Fr.nil n0
  have pre0 : ∀ t, Steps p.tables e below (s₁.setTop (mkF m 0 #[uR a1, uL q2, uS, uU, uU, uU] [])) t → Steps p.tables e below (s₁.setTop (entryFrame m #[(.ref a1), (.long q2)] 6)) t := fun t k => castTop (ef_fr4 m a1 q2) k
  obtain ⟨T1, X1, e1, st1⟩ := getF X0 hx hZ hown (host := "") (Or.inl (own_w hw (i := 27) rfl)) Via.refl e0 F_count_a1 (g := (mkF m 3 #[uR a1, uL q2, uS, uI 0, uU, uU] [(.ref a1)])) rfl rfl (hb hby d13_3)
  obtain ⟨T2, X2, e2, st2⟩ := getF X1 hx hZ hown (host := "") (Or.inl (own_w hw (i := 15) rfl)) Via.refl e1 F_maxTimestampsSoFar_a1 (g := (mkF m 23 #[uR a1, uL q2, uS, uI 0, uI 4, uI 2] [(.ref a1)])) rfl rfl (hb hby d13_23)
  obtain ⟨car3, Aar3, qar3, Sar3, Nar3, Har3, Gar3⟩ := id V_aM
  have hinar3 : ¬ ((2 : Int32) < 0 ∨ car3.slots.size ≤ ((2 : Int32)).toNatClampNeg) := inb_of Sar3 ⟨by decide, by decide⟩
  have hatar3 : car3.slots[((2 : Int32)).toNatClampNeg]? = some (.long x2) := Har3.at hinar3 rfl
  have pre4 : ∀ t, Steps p.tables e below (T2.setTop (mkF m 31 #[uR a1, uL q2, uS, uI 0, uI 4, uI 2] [(.int (lcmpW x2 q2))])) t → Steps p.tables e below (s₁.setTop (entryFrame m #[(.ref a1), (.long q2)] 6)) t := fun t k => pre0 t (by
    show Steps p.tables e below (s₁.setTop (mkF m 0 #[uR a1, uL q2, uS, uU, uU, uU] [])) _
    refine XS.iconst X0.here hx rfl (hb hby d13_0) ?_
    refine XS.istoreN X0.here hx rfl (hb hby d13_1) rfl (l' := #[uR a1, uL q2, uS, uI 0, uU, uU]) rfl ?_
    refine XS.aloadN X0.here hx rfl (hb hby d13_2) rfl rfl ?_
    refine st1 _ ?_
    refine XS.istore X1.here hx rfl (hb hby d13_6) rfl (l' := #[uR a1, uL q2, uS, uI 0, uI 4, uU]) rfl ?_
    refine XS.iloadN X1.here hx rfl (hb hby d13_8) rfl ?_
    refine XS.iload X1.here hx rfl (hb hby d13_9) rfl ?_
    show Steps p.tables e below (T1.setTop (mkF m 11 #[uR a1, uL q2, uS, uI 0, uI 4, uU] [(.int 4), (.int 0)])) _
    refine XS.icmpNo X1.here hx rfl (hb hby d13_11) rfl (tlt (by decide : (0 : Int32) < (4 : Int32))).2.1 ?_
    refine XS.iloadN X1.here hx rfl (hb hby d13_14) rfl ?_
    refine XS.iload X1.here hx rfl (hb hby d13_15) rfl ?_
    refine XS.iadd X1.here hx rfl (hb hby d13_17) rfl ?_
    refine XS.iconst X1.here hx rfl (hb hby d13_18) ?_
    refine XS.iushr X1.here hx rfl (hb hby d13_19) rfl ?_
    refine XS.istore X1.here hx rfl (hb hby d13_20) rfl (l' := #[uR a1, uL q2, uS, uI 0, uI 4, uI 2]) rfl ?_
    refine XS.aloadN X1.here hx rfl (hb hby d13_22) rfl rfl ?_
    refine st2 _ ?_
    show Steps p.tables e below (T2.setTop (mkF m 26 #[uR a1, uL q2, uS, uI 0, uI 4, uI 2] [(.ref aM)])) _
    refine XS.iload X2.here hx rfl (hb hby d13_26) rfl ?_
    refine X2.laload hx (j := (2 : Int32)) (v := (.long x2)) (by rw [e2]; exact Aar3.1) (State.isArrayOf_alike hZ.alike Aar3.2.1) Aar3.2.2 hinar3 hatar3 (g := (mkF m 28 #[uR a1, uL q2, uS, uI 0, uI 4, uI 2] [(.int 2), (.ref aM)])) rfl rfl (hb hby d13_28) _ ?_
    refine XS.lloadN X2.here hx rfl (hb hby d13_29) rfl ?_
    refine XS.lcmp X2.here hx rfl (hb hby d13_30) rfl ?_
    exact k)
  by_cases hc5 : x2 < q2
  ·  -- pc 31: x2 < q2
    obtain ⟨T6, X6, e6, st6⟩ := getF X2 hx hZ hown (host := "") (Or.inl (own_w hw (i := 15) rfl)) Via.refl e2 F_maxTimestampsSoFar_a1 (g := (mkF m 23 #[uR a1, uL q2, uS, uI 3, uI 4, uI 3] [(.ref a1)])) rfl rfl (hb hby d13_23)
    obtain ⟨car7, Aar7, qar7, Sar7, Nar7, Har7, Gar7⟩ := id V_aM
    have hinar7 : ¬ ((3 : Int32) < 0 ∨ car7.slots.size ≤ ((3 : Int32)).toNatClampNeg) := inb_of Sar7 ⟨by decide, by decide⟩
    have hatar7 : car7.slots[((3 : Int32)).toNatClampNeg]? = some (.long x3) := Har7.at hinar7 rfl
    have pre8 : ∀ t, Steps p.tables e below (T6.setTop (mkF m 31 #[uR a1, uL q2, uS, uI 3, uI 4, uI 3] [(.int (lcmpW x3 q2))])) t → Steps p.tables e below (s₁.setTop (entryFrame m #[(.ref a1), (.long q2)] 6)) t := fun t k => pre4 t (by
      show Steps p.tables e below (T2.setTop (mkF m 31 #[uR a1, uL q2, uS, uI 0, uI 4, uI 2] [(.int (lcmpW x2 q2))])) _
      refine XS.ifNo X2.here hx rfl (hb hby d13_31) rfl ((if0 _ _).trans (tlt ((lw_lt _ _).mpr hc5)).2.1) ?_
      refine XS.iload X2.here hx rfl (hb hby d13_34) rfl ?_
      refine XS.iconst X2.here hx rfl (hb hby d13_36) ?_
      refine XS.iadd X2.here hx rfl (hb hby d13_37) rfl ?_
      refine XS.istoreN X2.here hx rfl (hb hby d13_38) rfl (l' := #[uR a1, uL q2, uS, uI 3, uI 4, uI 2]) rfl ?_
      refine XS.goto X2.here hx rfl (pc0 := 39) (pc' := 46) rfl (hb hby d13_39) (by decide) (by decide) ?_
      refine XS.goto X2.here hx rfl (pc0 := 46) (pc' := 8) rfl (hb hby d13_46) (by decide) (by decide) ?_
      refine XS.iloadN X2.here hx rfl (hb hby d13_8) rfl ?_
      refine XS.iload X2.here hx rfl (hb hby d13_9) rfl ?_
      show Steps p.tables e below (T2.setTop (mkF m 11 #[uR a1, uL q2, uS, uI 3, uI 4, uI 2] [(.int 4), (.int 3)])) _
      refine XS.icmpNo X2.here hx rfl (hb hby d13_11) rfl (tlt (by decide : (3 : Int32) < (4 : Int32))).2.1 ?_
      refine XS.iloadN X2.here hx rfl (hb hby d13_14) rfl ?_
      refine XS.iload X2.here hx rfl (hb hby d13_15) rfl ?_
      show Steps p.tables e below (T2.setTop (mkF m 17 #[uR a1, uL q2, uS, uI 3, uI 4, uI 2] [(.int 4), (.int 3)])) _
      refine XS.iadd X2.here hx rfl (hb hby d13_17) rfl ?_
      refine XS.iconst X2.here hx rfl (hb hby d13_18) ?_
      refine XS.iushr X2.here hx rfl (hb hby d13_19) rfl ?_
      refine XS.istore X2.here hx rfl (hb hby d13_20) rfl (l' := #[uR a1, uL q2, uS, uI 3, uI 4, uI 3]) rfl ?_
      refine XS.aloadN X2.here hx rfl (hb hby d13_22) rfl rfl ?_
      refine st6 _ ?_
      refine XS.iload X6.here hx rfl (hb hby d13_26) rfl ?_
      refine X6.laload hx (j := (3 : Int32)) (v := (.long x3)) (by rw [e6]; exact Aar7.1) (State.isArrayOf_alike hZ.alike Aar7.2.1) Aar7.2.2 hinar7 hatar7 (g := (mkF m 28 #[uR a1, uL q2, uS, uI 3, uI 4, uI 3] [(.int 3), (.ref aM)])) rfl rfl (hb hby d13_28) _ ?_
      refine XS.lloadN X6.here hx rfl (hb hby d13_29) rfl ?_
      refine XS.lcmp X6.here hx rfl (hb hby d13_30) rfl ?_
      exact k)
    by_cases hc9 : x3 < q2
    ·  -- pc 31: x3 < q2
      obtain ⟨T10, X10, e10, st10⟩ := getF X6 hx hZ hown (host := "") (Or.inl (own_w hw (i := 39) rfl)) Via.refl e6 F_first_a1 (g := (mkF m 50 #[uR a1, uL q2, uS, uI 4, uI 4, uI 3] [(.ref a1)])) rfl rfl (hb hby d13_50)
      obtain ⟨fs, hr, hrun, hended, hW, hsame⟩ := X10.leave (v := some (.long (fz + (4 : Int64)))) (fun h => by rw [Bd.returns] at h; cases h) Bd.notSynchronized
      refine ⟨_, _, pre8 _ ?_, hrun, hended, _, _, rfl, ?_, ⟨_, rfl⟩, hW, hsame.mono (by decide) (by decide)⟩
      · show Steps p.tables e below (T6.setTop (mkF m 31 #[uR a1, uL q2, uS, uI 3, uI 4, uI 3] [(.int (lcmpW x3 q2))])) _
        refine XS.ifNo X6.here hx rfl (hb hby d13_31) rfl ((if0 _ _).trans (tlt ((lw_lt _ _).mpr hc9)).2.1) ?_
        refine XS.iload X6.here hx rfl (hb hby d13_34) rfl ?_
        refine XS.iconst X6.here hx rfl (hb hby d13_36) ?_
        refine XS.iadd X6.here hx rfl (hb hby d13_37) rfl ?_
        refine XS.istoreN X6.here hx rfl (hb hby d13_38) rfl (l' := #[uR a1, uL q2, uS, uI 4, uI 4, uI 3]) rfl ?_
        refine XS.goto X6.here hx rfl (pc0 := 39) (pc' := 46) rfl (hb hby d13_39) (by decide) (by decide) ?_
        show Steps p.tables e below (T6.setTop (mkF m 46 #[uR a1, uL q2, uS, uI 4, uI 4, uI 3] [])) _
        refine XS.goto X6.here hx rfl (pc0 := 46) (pc' := 8) rfl (hb hby d13_46) (by decide) (by decide) ?_
        refine XS.iloadN X6.here hx rfl (hb hby d13_8) rfl ?_
        refine XS.iload X6.here hx rfl (hb hby d13_9) rfl ?_
        show Steps p.tables e below (T6.setTop (mkF m 11 #[uR a1, uL q2, uS, uI 4, uI 4, uI 3] [(.int 4), (.int 4)])) _
        refine XS.icmpYes X6.here hx rfl (pc0 := 11) (pc' := 49) rfl (hb hby d13_11) rfl (flt (by decide : ¬ ((4 : Int32) < (4 : Int32)))).2.1 (by decide) (by decide) ?_
        refine XS.aloadN X6.here hx rfl (hb hby d13_49) rfl rfl ?_
        refine st10 _ ?_
        refine XS.iloadN X10.here hx rfl (hb hby d13_53) rfl ?_
        refine XS.i2l X10.here hx rfl (hb hby d13_54) rfl ?_
        refine XS.ladd X10.here hx rfl (hb hby d13_55) rfl ?_
        exact retOut X10 hx (t := .long) Bd.returns rfl (Or.inr (Or.inl ⟨rfl, rfl, _, rfl⟩)) (hb hby d13_56) hr
      · show Qfr4 Z a1 q2 aM kM fz x0 x1 x2 x3 x4 x5 x6 x7 h0 n0 _ T10.heap _
        rw [e10]
        exact ⟨(by unfold ffr4; rw [if_pos hc5, if_pos hc9]), N0, rfl⟩
    ·  -- pc 31: not x3 < q2
      obtain ⟨T11, X11, e11, st11⟩ := getF X6 hx hZ hown (host := "") (Or.inl (own_w hw (i := 39) rfl)) Via.refl e6 F_first_a1 (g := (mkF m 50 #[uR a1, uL q2, uS, uI 3, uI 3, uI 3] [(.ref a1)])) rfl rfl (hb hby d13_50)
      obtain ⟨fs, hr, hrun, hended, hW, hsame⟩ := X11.leave (v := some (.long (fz + (3 : Int64)))) (fun h => by rw [Bd.returns] at h; cases h) Bd.notSynchronized
      refine ⟨_, _, pre8 _ ?_, hrun, hended, _, _, rfl, ?_, ⟨_, rfl⟩, hW, hsame.mono (by decide) (by decide)⟩
      · show Steps p.tables e below (T6.setTop (mkF m 31 #[uR a1, uL q2, uS, uI 3, uI 4, uI 3] [(.int (lcmpW x3 q2))])) _
        refine XS.ifYes X6.here hx rfl (pc0 := 31) (pc' := 42) rfl (hb hby d13_31) rfl ((if0 _ _).trans (flt (mt (lw_lt _ _).mp hc9)).2.1) (by decide) (by decide) ?_
        refine XS.iload X6.here hx rfl (hb hby d13_42) rfl ?_
        refine XS.istore X6.here hx rfl (hb hby d13_44) rfl (l' := #[uR a1, uL q2, uS, uI 3, uI 3, uI 3]) rfl ?_
        refine XS.goto X6.here hx rfl (pc0 := 46) (pc' := 8) rfl (hb hby d13_46) (by decide) (by decide) ?_
        refine XS.iloadN X6.here hx rfl (hb hby d13_8) rfl ?_
        refine XS.iload X6.here hx rfl (hb hby d13_9) rfl ?_
        show Steps p.tables e below (T6.setTop (mkF m 11 #[uR a1, uL q2, uS, uI 3, uI 3, uI 3] [(.int 3), (.int 3)])) _
        refine XS.icmpYes X6.here hx rfl (pc0 := 11) (pc' := 49) rfl (hb hby d13_11) rfl (flt (by decide : ¬ ((3 : Int32) < (3 : Int32)))).2.1 (by decide) (by decide) ?_
        refine XS.aloadN X6.here hx rfl (hb hby d13_49) rfl rfl ?_
        refine st11 _ ?_
        refine XS.iloadN X11.here hx rfl (hb hby d13_53) rfl ?_
        refine XS.i2l X11.here hx rfl (hb hby d13_54) rfl ?_
        refine XS.ladd X11.here hx rfl (hb hby d13_55) rfl ?_
        exact retOut X11 hx (t := .long) Bd.returns rfl (Or.inr (Or.inl ⟨rfl, rfl, _, rfl⟩)) (hb hby d13_56) hr
      · show Qfr4 Z a1 q2 aM kM fz x0 x1 x2 x3 x4 x5 x6 x7 h0 n0 _ T11.heap _
        rw [e11]
        exact ⟨(by unfold ffr4; rw [if_pos hc5, if_neg hc9]), N0, rfl⟩
  ·  -- pc 31: not x2 < q2
    obtain ⟨T12, X12, e12, st12⟩ := getF X2 hx hZ hown (host := "") (Or.inl (own_w hw (i := 15) rfl)) Via.refl e2 F_maxTimestampsSoFar_a1 (g := (mkF m 23 #[uR a1, uL q2, uS, uI 0, uI 2, uI 1] [(.ref a1)])) rfl rfl (hb hby d13_23)
    obtain ⟨car13, Aar13, qar13, Sar13, Nar13, Har13, Gar13⟩ := id V_aM
    have hinar13 : ¬ ((1 : Int32) < 0 ∨ car13.slots.size ≤ ((1 : Int32)).toNatClampNeg) := inb_of Sar13 ⟨by decide, by decide⟩
    have hatar13 : car13.slots[((1 : Int32)).toNatClampNeg]? = some (.long x1) := Har13.at hinar13 rfl
    have pre14 : ∀ t, Steps p.tables e below (T12.setTop (mkF m 31 #[uR a1, uL q2, uS, uI 0, uI 2, uI 1] [(.int (lcmpW x1 q2))])) t → Steps p.tables e below (s₁.setTop (entryFrame m #[(.ref a1), (.long q2)] 6)) t := fun t k => pre4 t (by
      show Steps p.tables e below (T2.setTop (mkF m 31 #[uR a1, uL q2, uS, uI 0, uI 4, uI 2] [(.int (lcmpW x2 q2))])) _
      refine XS.ifYes X2.here hx rfl (pc0 := 31) (pc' := 42) rfl (hb hby d13_31) rfl ((if0 _ _).trans (flt (mt (lw_lt _ _).mp hc5)).2.1) (by decide) (by decide) ?_
      refine XS.iload X2.here hx rfl (hb hby d13_42) rfl ?_
      refine XS.istore X2.here hx rfl (hb hby d13_44) rfl (l' := #[uR a1, uL q2, uS, uI 0, uI 2, uI 2]) rfl ?_
      refine XS.goto X2.here hx rfl (pc0 := 46) (pc' := 8) rfl (hb hby d13_46) (by decide) (by decide) ?_
      refine XS.iloadN X2.here hx rfl (hb hby d13_8) rfl ?_
      refine XS.iload X2.here hx rfl (hb hby d13_9) rfl ?_
      show Steps p.tables e below (T2.setTop (mkF m 11 #[uR a1, uL q2, uS, uI 0, uI 2, uI 2] [(.int 2), (.int 0)])) _
      refine XS.icmpNo X2.here hx rfl (hb hby d13_11) rfl (tlt (by decide : (0 : Int32) < (2 : Int32))).2.1 ?_
      refine XS.iloadN X2.here hx rfl (hb hby d13_14) rfl ?_
      refine XS.iload X2.here hx rfl (hb hby d13_15) rfl ?_
      refine XS.iadd X2.here hx rfl (hb hby d13_17) rfl ?_
      refine XS.iconst X2.here hx rfl (hb hby d13_18) ?_
      refine XS.iushr X2.here hx rfl (hb hby d13_19) rfl ?_
      show Steps p.tables e below (T2.setTop (mkF m 20 #[uR a1, uL q2, uS, uI 0, uI 2, uI 2] [(.int 1)])) _
      refine XS.istore X2.here hx rfl (hb hby d13_20) rfl (l' := #[uR a1, uL q2, uS, uI 0, uI 2, uI 1]) rfl ?_
      refine XS.aloadN X2.here hx rfl (hb hby d13_22) rfl rfl ?_
      refine st12 _ ?_
      refine XS.iload X12.here hx rfl (hb hby d13_26) rfl ?_
      refine X12.laload hx (j := (1 : Int32)) (v := (.long x1)) (by rw [e12]; exact Aar13.1) (State.isArrayOf_alike hZ.alike Aar13.2.1) Aar13.2.2 hinar13 hatar13 (g := (mkF m 28 #[uR a1, uL q2, uS, uI 0, uI 2, uI 1] [(.int 1), (.ref aM)])) rfl rfl (hb hby d13_28) _ ?_
      refine XS.lloadN X12.here hx rfl (hb hby d13_29) rfl ?_
      refine XS.lcmp X12.here hx rfl (hb hby d13_30) rfl ?_
      exact k)
    by_cases hc15 : x1 < q2
    ·  -- pc 31: x1 < q2
      obtain ⟨T16, X16, e16, st16⟩ := getF X12 hx hZ hown (host := "") (Or.inl (own_w hw (i := 39) rfl)) Via.refl e12 F_first_a1 (g := (mkF m 50 #[uR a1, uL q2, uS, uI 2, uI 2, uI 1] [(.ref a1)])) rfl rfl (hb hby d13_50)
      obtain ⟨fs, hr, hrun, hended, hW, hsame⟩ := X16.leave (v := some (.long (fz + (2 : Int64)))) (fun h => by rw [Bd.returns] at h; cases h) Bd.notSynchronized
      refine ⟨_, _, pre14 _ ?_, hrun, hended, _, _, rfl, ?_, ⟨_, rfl⟩, hW, hsame.mono (by decide) (by decide)⟩
      · show Steps p.tables e below (T12.setTop (mkF m 31 #[uR a1, uL q2, uS, uI 0, uI 2, uI 1] [(.int (lcmpW x1 q2))])) _
        refine XS.ifNo X12.here hx rfl (hb hby d13_31) rfl ((if0 _ _).trans (tlt ((lw_lt _ _).mpr hc15)).2.1) ?_
        refine XS.iload X12.here hx rfl (hb hby d13_34) rfl ?_
        refine XS.iconst X12.here hx rfl (hb hby d13_36) ?_
        refine XS.iadd X12.here hx rfl (hb hby d13_37) rfl ?_
        refine XS.istoreN X12.here hx rfl (hb hby d13_38) rfl (l' := #[uR a1, uL q2, uS, uI 2, uI 2, uI 1]) rfl ?_
        refine XS.goto X12.here hx rfl (pc0 := 39) (pc' := 46) rfl (hb hby d13_39) (by decide) (by decide) ?_
        refine XS.goto X12.here hx rfl (pc0 := 46) (pc' := 8) rfl (hb hby d13_46) (by decide) (by decide) ?_
        refine XS.iloadN X12.here hx rfl (hb hby d13_8) rfl ?_
        refine XS.iload X12.here hx rfl (hb hby d13_9) rfl ?_
        show Steps p.tables e below (T12.setTop (mkF m 11 #[uR a1, uL q2, uS, uI 2, uI 2, uI 1] [(.int 2), (.int 2)])) _
        refine XS.icmpYes X12.here hx rfl (pc0 := 11) (pc' := 49) rfl (hb hby d13_11) rfl (flt (by decide : ¬ ((2 : Int32) < (2 : Int32)))).2.1 (by decide) (by decide) ?_
        refine XS.aloadN X12.here hx rfl (hb hby d13_49) rfl rfl ?_
        refine st16 _ ?_
        refine XS.iloadN X16.here hx rfl (hb hby d13_53) rfl ?_
        refine XS.i2l X16.here hx rfl (hb hby d13_54) rfl ?_
        refine XS.ladd X16.here hx rfl (hb hby d13_55) rfl ?_
        exact retOut X16 hx (t := .long) Bd.returns rfl (Or.inr (Or.inl ⟨rfl, rfl, _, rfl⟩)) (hb hby d13_56) hr
      · show Qfr4 Z a1 q2 aM kM fz x0 x1 x2 x3 x4 x5 x6 x7 h0 n0 _ T16.heap _
        rw [e16]
        exact ⟨(by unfold ffr4; rw [if_neg hc5, if_pos hc15]), N0, rfl⟩
    ·  -- pc 31: not x1 < q2
      obtain ⟨T17, X17, e17, st17⟩ := getF X12 hx hZ hown (host := "") (Or.inl (own_w hw (i := 15) rfl)) Via.refl e12 F_maxTimestampsSoFar_a1 (g := (mkF m 23 #[uR a1, uL q2, uS, uI 0, uI 1, uI 0] [(.ref a1)])) rfl rfl (hb hby d13_23)
      obtain ⟨car18, Aar18, qar18, Sar18, Nar18, Har18, Gar18⟩ := id V_aM
      have hinar18 : ¬ ((0 : Int32) < 0 ∨ car18.slots.size ≤ ((0 : Int32)).toNatClampNeg) := inb_of Sar18 ⟨by decide, by decide⟩
      have hatar18 : car18.slots[((0 : Int32)).toNatClampNeg]? = some (.long x0) := Har18.at hinar18 rfl
      have pre19 : ∀ t, Steps p.tables e below (T17.setTop (mkF m 31 #[uR a1, uL q2, uS, uI 0, uI 1, uI 0] [(.int (lcmpW x0 q2))])) t → Steps p.tables e below (s₁.setTop (entryFrame m #[(.ref a1), (.long q2)] 6)) t := fun t k => pre14 t (by
        show Steps p.tables e below (T12.setTop (mkF m 31 #[uR a1, uL q2, uS, uI 0, uI 2, uI 1] [(.int (lcmpW x1 q2))])) _
        refine XS.ifYes X12.here hx rfl (pc0 := 31) (pc' := 42) rfl (hb hby d13_31) rfl ((if0 _ _).trans (flt (mt (lw_lt _ _).mp hc15)).2.1) (by decide) (by decide) ?_
        refine XS.iload X12.here hx rfl (hb hby d13_42) rfl ?_
        refine XS.istore X12.here hx rfl (hb hby d13_44) rfl (l' := #[uR a1, uL q2, uS, uI 0, uI 1, uI 1]) rfl ?_
        refine XS.goto X12.here hx rfl (pc0 := 46) (pc' := 8) rfl (hb hby d13_46) (by decide) (by decide) ?_
        refine XS.iloadN X12.here hx rfl (hb hby d13_8) rfl ?_
        refine XS.iload X12.here hx rfl (hb hby d13_9) rfl ?_
        show Steps p.tables e below (T12.setTop (mkF m 11 #[uR a1, uL q2, uS, uI 0, uI 1, uI 1] [(.int 1), (.int 0)])) _
        refine XS.icmpNo X12.here hx rfl (hb hby d13_11) rfl (tlt (by decide : (0 : Int32) < (1 : Int32))).2.1 ?_
        refine XS.iloadN X12.here hx rfl (hb hby d13_14) rfl ?_
        refine XS.iload X12.here hx rfl (hb hby d13_15) rfl ?_
        show Steps p.tables e below (T12.setTop (mkF m 17 #[uR a1, uL q2, uS, uI 0, uI 1, uI 1] [(.int 1), (.int 0)])) _
        refine XS.iadd X12.here hx rfl (hb hby d13_17) rfl ?_
        refine XS.iconst X12.here hx rfl (hb hby d13_18) ?_
        refine XS.iushr X12.here hx rfl (hb hby d13_19) rfl ?_
        refine XS.istore X12.here hx rfl (hb hby d13_20) rfl (l' := #[uR a1, uL q2, uS, uI 0, uI 1, uI 0]) rfl ?_
        refine XS.aloadN X12.here hx rfl (hb hby d13_22) rfl rfl ?_
        refine st17 _ ?_
        refine XS.iload X17.here hx rfl (hb hby d13_26) rfl ?_
        refine X17.laload hx (j := (0 : Int32)) (v := (.long x0)) (by rw [e17]; exact Aar18.1) (State.isArrayOf_alike hZ.alike Aar18.2.1) Aar18.2.2 hinar18 hatar18 (g := (mkF m 28 #[uR a1, uL q2, uS, uI 0, uI 1, uI 0] [(.int 0), (.ref aM)])) rfl rfl (hb hby d13_28) _ ?_
        refine XS.lloadN X17.here hx rfl (hb hby d13_29) rfl ?_
        refine XS.lcmp X17.here hx rfl (hb hby d13_30) rfl ?_
        exact k)
      by_cases hc20 : x0 < q2
      ·  -- pc 31: x0 < q2
        obtain ⟨T21, X21, e21, st21⟩ := getF X17 hx hZ hown (host := "") (Or.inl (own_w hw (i := 39) rfl)) Via.refl e17 F_first_a1 (g := (mkF m 50 #[uR a1, uL q2, uS, uI 1, uI 1, uI 0] [(.ref a1)])) rfl rfl (hb hby d13_50)
        obtain ⟨fs, hr, hrun, hended, hW, hsame⟩ := X21.leave (v := some (.long (fz + (1 : Int64)))) (fun h => by rw [Bd.returns] at h; cases h) Bd.notSynchronized
        refine ⟨_, _, pre19 _ ?_, hrun, hended, _, _, rfl, ?_, ⟨_, rfl⟩, hW, hsame.mono (by decide) (by decide)⟩
        · show Steps p.tables e below (T17.setTop (mkF m 31 #[uR a1, uL q2, uS, uI 0, uI 1, uI 0] [(.int (lcmpW x0 q2))])) _
          refine XS.ifNo X17.here hx rfl (hb hby d13_31) rfl ((if0 _ _).trans (tlt ((lw_lt _ _).mpr hc20)).2.1) ?_
          refine XS.iload X17.here hx rfl (hb hby d13_34) rfl ?_
          refine XS.iconst X17.here hx rfl (hb hby d13_36) ?_
          refine XS.iadd X17.here hx rfl (hb hby d13_37) rfl ?_
          refine XS.istoreN X17.here hx rfl (hb hby d13_38) rfl (l' := #[uR a1, uL q2, uS, uI 1, uI 1, uI 0]) rfl ?_
          refine XS.goto X17.here hx rfl (pc0 := 39) (pc' := 46) rfl (hb hby d13_39) (by decide) (by decide) ?_
          show Steps p.tables e below (T17.setTop (mkF m 46 #[uR a1, uL q2, uS, uI 1, uI 1, uI 0] [])) _
          refine XS.goto X17.here hx rfl (pc0 := 46) (pc' := 8) rfl (hb hby d13_46) (by decide) (by decide) ?_
          refine XS.iloadN X17.here hx rfl (hb hby d13_8) rfl ?_
          refine XS.iload X17.here hx rfl (hb hby d13_9) rfl ?_
          show Steps p.tables e below (T17.setTop (mkF m 11 #[uR a1, uL q2, uS, uI 1, uI 1, uI 0] [(.int 1), (.int 1)])) _
          refine XS.icmpYes X17.here hx rfl (pc0 := 11) (pc' := 49) rfl (hb hby d13_11) rfl (flt (by decide : ¬ ((1 : Int32) < (1 : Int32)))).2.1 (by decide) (by decide) ?_
          refine XS.aloadN X17.here hx rfl (hb hby d13_49) rfl rfl ?_
          refine st21 _ ?_
          refine XS.iloadN X21.here hx rfl (hb hby d13_53) rfl ?_
          refine XS.i2l X21.here hx rfl (hb hby d13_54) rfl ?_
          refine XS.ladd X21.here hx rfl (hb hby d13_55) rfl ?_
          exact retOut X21 hx (t := .long) Bd.returns rfl (Or.inr (Or.inl ⟨rfl, rfl, _, rfl⟩)) (hb hby d13_56) hr
        · show Qfr4 Z a1 q2 aM kM fz x0 x1 x2 x3 x4 x5 x6 x7 h0 n0 _ T21.heap _
          rw [e21]
          exact ⟨(by unfold ffr4; rw [if_neg hc5, if_neg hc15, if_pos hc20]), N0, rfl⟩
      ·  -- pc 31: not x0 < q2
        obtain ⟨T22, X22, e22, st22⟩ := getF X17 hx hZ hown (host := "") (Or.inl (own_w hw (i := 39) rfl)) Via.refl e17 F_first_a1 (g := (mkF m 50 #[uR a1, uL q2, uS, uI 0, uI 0, uI 0] [(.ref a1)])) rfl rfl (hb hby d13_50)
        obtain ⟨fs, hr, hrun, hended, hW, hsame⟩ := X22.leave (v := some (.long (fz + (0 : Int64)))) (fun h => by rw [Bd.returns] at h; cases h) Bd.notSynchronized
        refine ⟨_, _, pre19 _ ?_, hrun, hended, _, _, rfl, ?_, ⟨_, rfl⟩, hW, hsame.mono (by decide) (by decide)⟩
        · show Steps p.tables e below (T17.setTop (mkF m 31 #[uR a1, uL q2, uS, uI 0, uI 1, uI 0] [(.int (lcmpW x0 q2))])) _
          refine XS.ifYes X17.here hx rfl (pc0 := 31) (pc' := 42) rfl (hb hby d13_31) rfl ((if0 _ _).trans (flt (mt (lw_lt _ _).mp hc20)).2.1) (by decide) (by decide) ?_
          refine XS.iload X17.here hx rfl (hb hby d13_42) rfl ?_
          refine XS.istore X17.here hx rfl (hb hby d13_44) rfl (l' := #[uR a1, uL q2, uS, uI 0, uI 0, uI 0]) rfl ?_
          refine XS.goto X17.here hx rfl (pc0 := 46) (pc' := 8) rfl (hb hby d13_46) (by decide) (by decide) ?_
          refine XS.iloadN X17.here hx rfl (hb hby d13_8) rfl ?_
          refine XS.iload X17.here hx rfl (hb hby d13_9) rfl ?_
          show Steps p.tables e below (T17.setTop (mkF m 11 #[uR a1, uL q2, uS, uI 0, uI 0, uI 0] [(.int 0), (.int 0)])) _
          refine XS.icmpYes X17.here hx rfl (pc0 := 11) (pc' := 49) rfl (hb hby d13_11) rfl (flt (by decide : ¬ ((0 : Int32) < (0 : Int32)))).2.1 (by decide) (by decide) ?_
          refine XS.aloadN X17.here hx rfl (hb hby d13_49) rfl rfl ?_
          refine st22 _ ?_
          refine XS.iloadN X22.here hx rfl (hb hby d13_53) rfl ?_
          refine XS.i2l X22.here hx rfl (hb hby d13_54) rfl ?_
          refine XS.ladd X22.here hx rfl (hb hby d13_55) rfl ?_
          exact retOut X22 hx (t := .long) Bd.returns rfl (Or.inr (Or.inl ⟨rfl, rfl, _, rfl⟩)) (hb hby d13_56) hr
        · show Qfr4 Z a1 q2 aM kM fz x0 x1 x2 x3 x4 x5 x6 x7 h0 n0 _ T22.heap _
          rw [e22]
          exact ⟨(by unfold ffr4; rw [if_neg hc5, if_neg hc15, if_neg hc20]), N0, rfl⟩
def own_fr (cnt : Int32) (fz x0 x1 x2 x3 q : Int64) : Int64 := if cnt = (0 : Int32) then (fz + (0 : Int64)) else if cnt = (1 : Int32) then (ffr1 q fz x0) else if cnt = (2 : Int32) then (ffr2 q fz x0 x1) else if cnt = (3 : Int32) then (ffr3 q fz x0 x1 x2) else (ffr4 q fz x0 x1 x2 x3)
def own_p (j nn kk : Int32) (m q v w : Int64) : Int64 := if (j < nn ∧ ¬ (j < kk) ∧ ¬ (m < q)) then v else w
def own_ex (nn kk : Int32) (m0 m1 m2 m3 q : Int64) : Int64 := own_p 0 nn kk m0 q 0 (own_p 1 nn kk m1 q 1 (own_p 2 nn kk m2 q 2 (own_p 3 nn kk m3 q 3 nn.toInt64)))
theorem own_cm (a b : Int64) : fmj a b = fmj b a := by
  unfold fmj
  split <;> split <;> first | rfl | (rename_i h1 h2; rw [Int64.lt_iff_toInt_lt] at h1 h2; rw [← Int64.toInt_inj]; omega)
theorem own_le (a b : Int64) : a.toInt ≤ (fmj a b).toInt := by
  unfold fmj
  split
  · rename_i h1; rw [Int64.lt_iff_toInt_lt] at h1; omega
  · omega
theorem own_n5 (x : Int32) : (x &&& (7 : Int32)) % (5 : Int32) = (0 : Int32) ∨ (x &&& (7 : Int32)) % (5 : Int32) = (1 : Int32) ∨ (x &&& (7 : Int32)) % (5 : Int32) = (2 : Int32) ∨ (x &&& (7 : Int32)) % (5 : Int32) = (3 : Int32) ∨ (x &&& (7 : Int32)) % (5 : Int32) = (4 : Int32) := by
  have e1 := c_mask x (7 : Int32) 3 (by decide) (by decide)
  generalize (x &&& (7 : Int32)) = m at *
  have e2 := (c_irem m (5 : Int32) 5 (by decide)).1 (by omega)
  simp only [← Int32.toInt_inj]
  rw [e2, show (0 : Int32).toInt = 0 from by decide, show (1 : Int32).toInt = 1 from by decide, show (2 : Int32).toInt = 2 from by decide, show (3 : Int32).toInt = 3 from by decide, show (4 : Int32).toInt = 4 from by decide]
  omega
theorem own_end_0_0 (m0 m1 m2 m3 y0 y1 y2 y3 q : Int64) (h1 : m0.toInt ≤ m1.toInt) (h2 : m1.toInt ≤ m2.toInt) (h3 : m2.toInt ≤ m3.toInt) : own_fr (0 : Int32) (0 : Int64) y0 y1 y2 y3 q = own_ex (0 : Int32) (0 : Int32) m0 m1 m2 m3 q := by
  unfold own_fr own_ex own_p 
  simp only [Int64.lt_iff_toInt_lt]
  repeat' split
  all_goals first | rfl | (exfalso; first | omega | (simp_all; done) | (simp_all; omega))
theorem own_end_1_0 (m0 m1 m2 m3 y0 y1 y2 y3 q : Int64) (h1 : m0.toInt ≤ m1.toInt) (h2 : m1.toInt ≤ m2.toInt) (h3 : m2.toInt ≤ m3.toInt) : own_fr (1 : Int32) (0 : Int64) m0 y1 y2 y3 q = own_ex (1 : Int32) (0 : Int32) m0 m1 m2 m3 q := by
  unfold own_fr own_ex own_p ffr1
  simp only [Int64.lt_iff_toInt_lt]
  repeat' split
  all_goals first | rfl | (exfalso; first | omega | (simp_all; done) | (simp_all; omega))
theorem own_end_1_1 (m0 m1 m2 m3 y0 y1 y2 y3 q : Int64) (h1 : m0.toInt ≤ m1.toInt) (h2 : m1.toInt ≤ m2.toInt) (h3 : m2.toInt ≤ m3.toInt) : own_fr (0 : Int32) (1 : Int64) y0 y1 y2 y3 q = own_ex (1 : Int32) (1 : Int32) m0 m1 m2 m3 q := by
  unfold own_fr own_ex own_p 
  simp only [Int64.lt_iff_toInt_lt]
  repeat' split
  all_goals first | rfl | (exfalso; first | omega | (simp_all; done) | (simp_all; omega))
theorem own_end_2_0 (m0 m1 m2 m3 y0 y1 y2 y3 q : Int64) (h1 : m0.toInt ≤ m1.toInt) (h2 : m1.toInt ≤ m2.toInt) (h3 : m2.toInt ≤ m3.toInt) : own_fr (2 : Int32) (0 : Int64) m0 m1 y2 y3 q = own_ex (2 : Int32) (0 : Int32) m0 m1 m2 m3 q := by
  unfold own_fr own_ex own_p ffr2
  simp only [Int64.lt_iff_toInt_lt]
  repeat' split
  all_goals first | rfl | (exfalso; first | omega | (simp_all; done) | (simp_all; omega))
theorem own_end_2_1 (m0 m1 m2 m3 y0 y1 y2 y3 q : Int64) (h1 : m0.toInt ≤ m1.toInt) (h2 : m1.toInt ≤ m2.toInt) (h3 : m2.toInt ≤ m3.toInt) : own_fr (1 : Int32) (1 : Int64) m1 y1 y2 y3 q = own_ex (2 : Int32) (1 : Int32) m0 m1 m2 m3 q := by
  unfold own_fr own_ex own_p ffr1
  simp only [Int64.lt_iff_toInt_lt]
  repeat' split
  all_goals first | rfl | (exfalso; first | omega | (simp_all; done) | (simp_all; omega))
theorem own_end_2_2 (m0 m1 m2 m3 y0 y1 y2 y3 q : Int64) (h1 : m0.toInt ≤ m1.toInt) (h2 : m1.toInt ≤ m2.toInt) (h3 : m2.toInt ≤ m3.toInt) : own_fr (0 : Int32) (2 : Int64) y0 y1 y2 y3 q = own_ex (2 : Int32) (2 : Int32) m0 m1 m2 m3 q := by
  unfold own_fr own_ex own_p 
  simp only [Int64.lt_iff_toInt_lt]
  repeat' split
  all_goals first | rfl | (exfalso; first | omega | (simp_all; done) | (simp_all; omega))
theorem own_end_3_0 (m0 m1 m2 m3 y0 y1 y2 y3 q : Int64) (h1 : m0.toInt ≤ m1.toInt) (h2 : m1.toInt ≤ m2.toInt) (h3 : m2.toInt ≤ m3.toInt) : own_fr (3 : Int32) (0 : Int64) m0 m1 m2 y3 q = own_ex (3 : Int32) (0 : Int32) m0 m1 m2 m3 q := by
  unfold own_fr own_ex own_p ffr3
  simp only [Int64.lt_iff_toInt_lt]
  repeat' split
  all_goals first | rfl | (exfalso; first | omega | (simp_all; done) | (simp_all; omega))
theorem own_end_3_1 (m0 m1 m2 m3 y0 y1 y2 y3 q : Int64) (h1 : m0.toInt ≤ m1.toInt) (h2 : m1.toInt ≤ m2.toInt) (h3 : m2.toInt ≤ m3.toInt) : own_fr (2 : Int32) (1 : Int64) m1 m2 y2 y3 q = own_ex (3 : Int32) (1 : Int32) m0 m1 m2 m3 q := by
  unfold own_fr own_ex own_p ffr2
  simp only [Int64.lt_iff_toInt_lt]
  repeat' split
  all_goals first | rfl | (exfalso; first | omega | (simp_all; done) | (simp_all; omega))
theorem own_end_3_2 (m0 m1 m2 m3 y0 y1 y2 y3 q : Int64) (h1 : m0.toInt ≤ m1.toInt) (h2 : m1.toInt ≤ m2.toInt) (h3 : m2.toInt ≤ m3.toInt) : own_fr (1 : Int32) (2 : Int64) m2 y1 y2 y3 q = own_ex (3 : Int32) (2 : Int32) m0 m1 m2 m3 q := by
  unfold own_fr own_ex own_p ffr1
  simp only [Int64.lt_iff_toInt_lt]
  repeat' split
  all_goals first | rfl | (exfalso; first | omega | (simp_all; done) | (simp_all; omega))
theorem own_end_3_3 (m0 m1 m2 m3 y0 y1 y2 y3 q : Int64) (h1 : m0.toInt ≤ m1.toInt) (h2 : m1.toInt ≤ m2.toInt) (h3 : m2.toInt ≤ m3.toInt) : own_fr (0 : Int32) (3 : Int64) y0 y1 y2 y3 q = own_ex (3 : Int32) (3 : Int32) m0 m1 m2 m3 q := by
  unfold own_fr own_ex own_p 
  simp only [Int64.lt_iff_toInt_lt]
  repeat' split
  all_goals first | rfl | (exfalso; first | omega | (simp_all; done) | (simp_all; omega))
theorem own_end_4_0 (m0 m1 m2 m3 y0 y1 y2 y3 q : Int64) (h1 : m0.toInt ≤ m1.toInt) (h2 : m1.toInt ≤ m2.toInt) (h3 : m2.toInt ≤ m3.toInt) : own_fr (4 : Int32) (0 : Int64) m0 m1 m2 m3 q = own_ex (4 : Int32) (0 : Int32) m0 m1 m2 m3 q := by
  unfold own_fr own_ex own_p ffr4
  simp only [Int64.lt_iff_toInt_lt]
  repeat' split
  all_goals first | rfl | (exfalso; first | omega | (simp_all; done) | (simp_all; omega))
theorem own_end_4_1 (m0 m1 m2 m3 y0 y1 y2 y3 q : Int64) (h1 : m0.toInt ≤ m1.toInt) (h2 : m1.toInt ≤ m2.toInt) (h3 : m2.toInt ≤ m3.toInt) : own_fr (3 : Int32) (1 : Int64) m1 m2 m3 y3 q = own_ex (4 : Int32) (1 : Int32) m0 m1 m2 m3 q := by
  unfold own_fr own_ex own_p ffr3
  simp only [Int64.lt_iff_toInt_lt]
  repeat' split
  all_goals first | rfl | (exfalso; first | omega | (simp_all; done) | (simp_all; omega))
theorem own_end_4_2 (m0 m1 m2 m3 y0 y1 y2 y3 q : Int64) (h1 : m0.toInt ≤ m1.toInt) (h2 : m1.toInt ≤ m2.toInt) (h3 : m2.toInt ≤ m3.toInt) : own_fr (2 : Int32) (2 : Int64) m2 m3 y2 y3 q = own_ex (4 : Int32) (2 : Int32) m0 m1 m2 m3 q := by
  unfold own_fr own_ex own_p ffr2
  simp only [Int64.lt_iff_toInt_lt]
  repeat' split
  all_goals first | rfl | (exfalso; first | omega | (simp_all; done) | (simp_all; omega))
theorem own_end_4_3 (m0 m1 m2 m3 y0 y1 y2 y3 q : Int64) (h1 : m0.toInt ≤ m1.toInt) (h2 : m1.toInt ≤ m2.toInt) (h3 : m2.toInt ≤ m3.toInt) : own_fr (1 : Int32) (3 : Int64) m3 y1 y2 y3 q = own_ex (4 : Int32) (3 : Int32) m0 m1 m2 m3 q := by
  unfold own_fr own_ex own_p ffr1
  simp only [Int64.lt_iff_toInt_lt]
  repeat' split
  all_goals first | rfl | (exfalso; first | omega | (simp_all; done) | (simp_all; omega))
theorem own_end_4_4 (m0 m1 m2 m3 y0 y1 y2 y3 q : Int64) (h1 : m0.toInt ≤ m1.toInt) (h2 : m1.toInt ≤ m2.toInt) (h3 : m2.toInt ≤ m3.toInt) : own_fr (0 : Int32) (4 : Int64) y0 y1 y2 y3 q = own_ex (4 : Int32) (4 : Int32) m0 m1 m2 m3 q := by
  unfold own_fr own_ex own_p 
  simp only [Int64.lt_iff_toInt_lt]
  repeat' split
  all_goals first | rfl | (exfalso; first | omega | (simp_all; done) | (simp_all; omega))
theorem own_fr_0 (fz x0 x1 x2 x3 q : Int64) : own_fr (0 : Int32) fz x0 x1 x2 x3 q = (fz + (0 : Int64)) := by
  unfold own_fr
  rw [if_pos rfl]
theorem own_fr_1 (fz x0 x1 x2 x3 q : Int64) : own_fr (1 : Int32) fz x0 x1 x2 x3 q = (ffr1 q fz x0) := by
  unfold own_fr
  rw [if_neg (by decide), if_pos rfl]
theorem own_fr_2 (fz x0 x1 x2 x3 q : Int64) : own_fr (2 : Int32) fz x0 x1 x2 x3 q = (ffr2 q fz x0 x1) := by
  unfold own_fr
  rw [if_neg (by decide), if_neg (by decide), if_pos rfl]
theorem own_fr_3 (fz x0 x1 x2 x3 q : Int64) : own_fr (3 : Int32) fz x0 x1 x2 x3 q = (ffr3 q fz x0 x1 x2) := by
  unfold own_fr
  rw [if_neg (by decide), if_neg (by decide), if_neg (by decide), if_pos rfl]
theorem own_fr_4 (fz x0 x1 x2 x3 q : Int64) : own_fr (4 : Int32) fz x0 x1 x2 x3 q = (ffr4 q fz x0 x1 x2 x3) := by
  unfold own_fr
  rw [if_neg (by decide), if_neg (by decide), if_neg (by decide), if_neg (by decide)]
theorem own_exj (nn kk : Int32) (m0 m1 m2 m3 q e0 e1 e2 e3 : Int64) (h0 : e0 = own_p 0 nn kk m0 q 0 e1) (h1 : e1 = own_p 1 nn kk m1 q 1 e2) (h2 : e2 = own_p 2 nn kk m2 q 2 e3) (h3 : e3 = own_p 3 nn kk m3 q 3 nn.toInt64) : own_ex nn kk m0 m1 m2 m3 q = e0 := by
  unfold own_ex
  rw [h0, h1, h2, h3]
theorem pn_331 : plainName KL = true := by first | (simp [plainName, overriddenIn]; done) | decide +kernel
theorem pd_332 : parseMethodDescriptor "()V" = some ⟨[], none⟩ := by decide +kernel
theorem pd_333 : parseMethodDescriptor "(J)V" = some ⟨[.long], none⟩ := by decide +kernel
theorem pd_334 : parseMethodDescriptor "(JJJ)V" = some ⟨[.long, .long, .long], none⟩ := by decide +kernel
theorem pd_335 : parseMethodDescriptor "(J)J" = some ⟨[.long], some .long⟩ := by decide +kernel
theorem ef_0 (m : MethodId) (x0 : Int32) (x1 : Int64) (x2 : Int64) (x3 : Int64) (x4 : Int64) (x5 : Int64) : entryFrame m #[(.int x0), (.long x1), (.long x2), (.long x3), (.long x4), (.long x5)] maxLocals = mkF m 0 #[.val (.int x0), .val (.long x1), .second, .val (.long x2), .second, .val (.long x3), .second, .val (.long x4), .second, .val (.long x5), .second, .unset, .unset, .unset, .unset, .unset, .unset, .unset, .unset, .unset, .unset, .unset, .unset, .unset, .unset] [] := by first | (simp [entryFrame, mkF, argsToLocals, Value.category, maxLocals]; done) | rfl
def Q0 (Z : State) (p1 : Int32) (q2 : Int64) (q3 : Int64) (q4 : Int64) (q5 : Int64) (q6 : Int64) (w_NONE : Addr) (kw : ClassId) (h0 : Heap) (n0 : Nat) (v : Option Value) (h : Heap) (L : List Loc) : Prop := v = some (.int 1) ∧ Fr n0 L
set_option maxRecDepth 65536 in
set_option maxHeartbeats 40000000 in
theorem rm0 (l : Launch) (Z : State) (a0 : Array Value) (hw : ∀ d ∈ tables_1, d.before a0 Z = true) (ws : List Jvm.Cond) (p1 : Int32) (q2 : Int64) (q3 : Int64) (q4 : Int64) (q5 : Int64) (q6 : Int64) (w_NONE : Addr) (kw : ClassId) (h0 : Heap) (n0 : Nat) (Z0 : n0 ≤ h0.size) (O0 : Old Z n0 h0) (S_NONE : Sta Z Z.heap KC "NONE" "[J" (.ref w_NONE)) (E_w_NONE : Exa Z Z.heap w_NONE "[J") (V_w_NONE : Arv Z Z.heap w_NONE kw .long (0 : Int32) [] (.long 0)) :
    MetFree l x (head1 (Jvm.Cond.code x code maxLocals ret :: ws) room_1) (fun a U => a = #[(.int p1), (.long q2), (.long q3), (.long q4), (.long q5), (.long q6)] ∧ Z.Warmed39 U.vm ∧ U.heap = h0) (fun _ _ _ _ _ => True) (fun _ U o U' => ∃ v L, o = .returned v ∧ Q0 Z p1 q2 q3 q4 q5 q6 w_NONE kw h0 n0 v U'.heap L ∧ FrameEnd U o U' L room_1.cells room_1.slots) := by
  refine MetFree.of_bodySF (plainFor_of_name pn_331) hisR ?_
  intro p e s m args below meth c s₁ Bd hml0 hP hK
  obtain ⟨rfl, hZ, hh⟩ := hP
  have hx := Bd.exec
  have hby := Bd.bytes
  have hml : c.maxLocals = 25 := hml0
  have hown : s.vm.findClass KL = some m.cls := findClass_of_methodNamed Bd.named
  have hnm := (name_of_methodNamed Bd.named Bd.method).1
  have X0 : Stand p l e room_1 s m #[(.int p1), (.long q2), (.long q3), (.long q4), (.long q5), (.long q6)] below meth c s₁ [] 0 0 := Stand.of_body Bd
  have e0 : s₁.heap = h0 := by rw [← hh, Bd.state]; rfl
  have N0 := Fr.nil n0
  have pre0 : ∀ t, Steps p.tables e below (s₁.setTop (mkF m 0 #[uI p1, uL q2, uS, uL q3, uS, uL q4, uS, uL q5, uS, uL q6, uS, uU, uU, uU, uU, uU, uU, uU, uU, uU, uU, uU, uU, uU, uU] [])) t → Steps p.tables e below (s₁.setTop (entryFrame m #[(.int p1), (.long q2), (.long q3), (.long q4), (.long q5), (.long q6)] maxLocals)) t := fun t k => castTop (ef_0 m p1 q2 q3 q4 q5 q6) k
  have pre1 : ∀ t, Steps p.tables e below (s₁.setTop (mkF m 18 #[uI p1, uL q2, uS, uL q3, uS, uL q4, uS, uL q5, uS, uL q6, uS, uI ((p1 &&& (7 : Int32)) % (5 : Int32)), uI ((((p1.toUInt32 >>> ((3 : Int32) &&& 31).toUInt32).toInt32) &&& (7 : Int32)) % (5 : Int32)), uU, uU, uU, uU, uU, uU, uU, uU, uU, uU, uU, uU] [])) t → Steps p.tables e below (s₁.setTop (entryFrame m #[(.int p1), (.long q2), (.long q3), (.long q4), (.long q5), (.long q6)] maxLocals)) t := fun t k => pre0 t (by
    show Steps p.tables e below (s₁.setTop (mkF m 0 #[uI p1, uL q2, uS, uL q3, uS, uL q4, uS, uL q5, uS, uL q6, uS, uU, uU, uU, uU, uU, uU, uU, uU, uU, uU, uU, uU, uU, uU] [])) _
    refine XS.iloadN X0.here hx rfl (hb hby at_0) rfl ?_
    refine XS.bipush X0.here hx rfl (hb hby at_1) ?_
    refine XS.iand X0.here hx rfl (hb hby at_3) rfl ?_
    refine XS.iconst X0.here hx rfl (hb hby at_4) ?_
    refine iremM X0 hx rfl (hb hby at_5) rfl (by decide) ?_
    refine XS.istore X0.here hx rfl (hb hby at_6) rfl (l' := #[uI p1, uL q2, uS, uL q3, uS, uL q4, uS, uL q5, uS, uL q6, uS, uI ((p1 &&& (7 : Int32)) % (5 : Int32)), uU, uU, uU, uU, uU, uU, uU, uU, uU, uU, uU, uU, uU]) rfl ?_
    refine XS.iloadN X0.here hx rfl (hb hby at_8) rfl ?_
    refine XS.iconst X0.here hx rfl (hb hby at_9) ?_
    refine XS.iushr X0.here hx rfl (hb hby at_10) rfl ?_
    refine XS.bipush X0.here hx rfl (hb hby at_11) ?_
    refine XS.iand X0.here hx rfl (hb hby at_13) rfl ?_
    refine XS.iconst X0.here hx rfl (hb hby at_14) ?_
    refine iremM X0 hx rfl (hb hby at_15) rfl (by decide) ?_
    refine XS.istore X0.here hx rfl (hb hby at_16) rfl (l' := #[uI p1, uL q2, uS, uL q3, uS, uL q4, uS, uL q5, uS, uL q6, uS, uI ((p1 &&& (7 : Int32)) % (5 : Int32)), uI ((((p1.toUInt32 >>> ((3 : Int32) &&& 31).toUInt32).toInt32) &&& (7 : Int32)) % (5 : Int32)), uU, uU, uU, uU, uU, uU, uU, uU, uU, uU, uU, uU]) rfl ?_
    exact k)
  refine cps (A := ∃ (nn : Int32) (dd : Int32) (ix : Addr) (ar : Addr) (cnt : Int32) (fz : Int64) (kar : ClassId) (x0 : Int64) (x1 : Int64) (x2 : Int64) (x3 : Int64) (x4 : Int64) (x5 : Int64) (x6 : Int64) (x7 : Int64) (hj2 : Heap) (lcj2 : List Loc) (Tj2 : State), (Exa Z hj2 ix KC) ∧ (Fld Z hj2 ix KC "count" "I" (.int cnt)) ∧ (Fld Z hj2 ix KC "first" "J" (.long fz)) ∧ (Fld Z hj2 ix KC KM "[J" (.ref ar)) ∧ (Arv Z hj2 ar kar .long (8 : Int32) [(.long x0), (.long x1), (.long x2), (.long x3), (.long x4), (.long x5), (.long x6), (.long x7)] (.long 0)) ∧ ((cnt = (0 : Int32) ∨ cnt = (1 : Int32) ∨ cnt = (2 : Int32) ∨ cnt = (3 : Int32) ∨ cnt = (4 : Int32)) ∧ ∀ qq, own_fr cnt fz x0 x1 x2 x3 qq = own_ex nn (fmn dd nn) q2 (fmj q2 q3) (fmj (fmj q2 q3) q4) (fmj (fmj (fmj q2 q3) q4) q5) qq) ∧ Fr n0 lcj2 ∧ n0 ≤ hj2.size ∧ Old Z n0 hj2 ∧ n0 ≤ ar ∧ Stand p l e room_1 s m #[(.int p1), (.long q2), (.long q3), (.long q4), (.long q5), (.long q6)] below meth c Tj2 lcj2 7 53 ∧ Tj2.heap = hj2 ∧ (∀ t, Steps p.tables e below (Tj2.setTop (mkF m 112 #[uI p1, uL q2, uS, uL q3, uS, uL q4, uS, uL q5, uS, uL q6, uS, uI nn, uI dd, uR ix, uU, uU, uU, uU, uU, uU, uU, uU, uU, uU, uU] [])) t → Steps p.tables e below (s₁.setTop (entryFrame m #[(.int p1), (.long q2), (.long q3), (.long q4), (.long q5), (.long q6)] maxLocals)) t)) (fun kj => ?_) ?_
  ·  -- to the meeting at pc 112
    rcases own_n5 p1 with hn | hn | hn | hn | hn
    ·  -- n = 0
      have pre3 := pre1
      rw [hn] at pre3
      obtain ⟨T4, h4, X4, e4, E4, A4, D4, -, st4⟩ := newO X0 hx hZ hown (own_w hw (i := 0) rfl) (own_w hw (i := 1) rfl) (own_w hw (i := 2) rfl) e0 (g := (mkF m 18 #[uI p1, uL q2, uS, uL q3, uS, uL q4, uS, uL q5, uS, uL q6, uS, uI 0, uI ((((p1.toUInt32 >>> ((3 : Int32) &&& 31).toUInt32).toInt32) &&& (7 : Int32)) % (5 : Int32)), uU, uU, uU, uU, uU, uU, uU, uU, uU, uU, uU, uU] [])) rfl (hb hby at_18) (by decide) (by decide)
      obtain ⟨bx4, g4⟩ : ∃ z, z = h0.size := ⟨_, rfl⟩
      rw [← g4] at A4 D4 st4
      have g_bx4 : n0 ≤ bx4 := Nat.le_trans Z0 (Nat.le_of_eq g4.symm)
      have ne5 : w_NONE ≠ bx4 := Nat.ne_of_lt (Nat.lt_of_lt_of_le (E_w_NONE.ext O0.2).lt (Nat.le_of_eq g4.symm))
      have f6 := O0.ext E4
      have zs7 : n0 ≤ h4.size := Nat.le_trans Z0 E4.1
      have F_baseOffsets_bx4 : Fld Z h4 bx4 KC KB "[J" .null := D4 (Or.inl (own_w hw (i := 12) rfl)) (ty := (.array .long)) (by decide)
      have F_positions_bx4 : Fld Z h4 bx4 KC KP "[J" .null := D4 (Or.inl (own_w hw (i := 14) rfl)) (ty := (.array .long)) (by decide)
      have F_maxTimestampsSoFar_bx4 : Fld Z h4 bx4 KC KM "[J" .null := D4 (Or.inl (own_w hw (i := 16) rfl)) (ty := (.array .long)) (by decide)
      have F_count_bx4 : Fld Z h4 bx4 KC "count" "I" (.int 0) := D4 (Or.inl (own_w hw (i := 28) rfl)) (ty := .int) (by decide)
      have F_first_bx4 : Fld Z h4 bx4 KC "first" "J" (.long 0) := D4 (Or.inl (own_w hw (i := 40) rfl)) (ty := .long) (by decide)
      -- pc 22: BatchIndex.<init> by rmini
      obtain ⟨_, _, ⟨T8, L8, ck8, cn8⟩, -, X8, ⟨Lc8, hQ8, l8, y8, z8⟩, st8⟩ := X4.specialBack hx (y := (⟨KC, "<init>", "()V"⟩ : MethodName)) rfl hown (mvT hZ (own_w hw (i := 3) rfl)) (mvT hZ (own_w hw (i := 4) rfl)) (mvT hZ (own_w hw (i := 5) rfl)) (by decide) (backOf (W := 1) (rmini l Z a0 hw [] bx4 w_NONE (0 : Int32) (0 : Int64) h4 n0 zs7 A4 F_baseOffsets_bx4 F_positions_bx4 F_maxTimestampsSoFar_bx4 F_count_bx4 F_first_bx4 (S_NONE.ext f6.2) g_bx4) hZ (own_w hw (i := 5) rfl) (own_w hw (i := 2) rfl) (by decide) (by decide)) (g := (mkF m 22 #[uI p1, uL q2, uS, uL q3, uS, uL q4, uS, uL q5, uS, uL q6, uS, uI 0, uI ((((p1.toUInt32 >>> ((3 : Int32) &&& 31).toUInt32).toInt32) &&& (7 : Int32)) % (5 : Int32)), uU, uU, uU, uU, uU, uU, uU, uU, uU, uU, uU, uU] [(.ref bx4), (.ref bx4)])) rfl (by rw [hml]; rfl) (Steps.refl _) (a := bx4) (argsL := []) (rest := [(.ref bx4)]) (lenOf pd_332 rfl) rfl (by show 2 * 0 + _ ≤ _; exact Nat.le_of_eq rfl) (hb hby at_22) (fun _ _ => ⟨rfl, e4, (by decide : 1 + 0 ≤ _), (by decide : 5 + 0 ≤ _)⟩)
      dsimp only [Pt.U, Pt.locs, Pt.cells, Pt.slots] at X8 l8 y8 z8 st8 hQ8
      subst y8 z8
      obtain ⟨rfl, N8q, K8q, o8_0, o8_1, o8_2, o8_3, o8_4, o8_5⟩ := hQ8
      have N9 : Fr n0 L8 := by rw [l8]; exact Fr.app N0 N8q
      have f10 := f6.keep K8q (allS g_bx4 all0)
      have zs17 : n0 ≤ T8.heap.size := Nat.le_trans zs7 K8q.1
      have pre18 : ∀ t, Steps p.tables e below (T8.setTop (mkF m 98 #[uI p1, uL q2, uS, uL q3, uS, uL q4, uS, uL q5, uS, uL q6, uS, uI 0, uI ((((p1.toUInt32 >>> ((3 : Int32) &&& 31).toUInt32).toInt32) &&& (7 : Int32)) % (5 : Int32)), uR bx4, uU, uU, uU, uU, uU, uU, uU, uU, uU, uU, uU] [])) t → Steps p.tables e below (s₁.setTop (entryFrame m #[(.int p1), (.long q2), (.long q3), (.long q4), (.long q5), (.long q6)] maxLocals)) t := fun t k => pre3 t (by
        show Steps p.tables e below (s₁.setTop (mkF m 18 #[uI p1, uL q2, uS, uL q3, uS, uL q4, uS, uL q5, uS, uL q6, uS, uI 0, uI ((((p1.toUInt32 >>> ((3 : Int32) &&& 31).toUInt32).toInt32) &&& (7 : Int32)) % (5 : Int32)), uU, uU, uU, uU, uU, uU, uU, uU, uU, uU, uU, uU] [])) _
        refine st4 _ ?_
        refine XS.dup X4.here hx rfl (hb hby at_21) rfl rfl ?_
        refine st8.trans ?_
        refine XS.astore X8.here hx rfl (hb hby at_25) rfl rfl (l' := #[uI p1, uL q2, uS, uL q3, uS, uL q4, uS, uL q5, uS, uL q6, uS, uI 0, uI ((((p1.toUInt32 >>> ((3 : Int32) &&& 31).toUInt32).toInt32) &&& (7 : Int32)) % (5 : Int32)), uR bx4, uU, uU, uU, uU, uU, uU, uU, uU, uU, uU, uU]) rfl ?_
        refine XS.iload X8.here hx rfl (hb hby at_27) rfl ?_
        show Steps p.tables e below (T8.setTop (mkF m 29 #[uI p1, uL q2, uS, uL q3, uS, uL q4, uS, uL q5, uS, uL q6, uS, uI 0, uI ((((p1.toUInt32 >>> ((3 : Int32) &&& 31).toUInt32).toInt32) &&& (7 : Int32)) % (5 : Int32)), uR bx4, uU, uU, uU, uU, uU, uU, uU, uU, uU, uU, uU] [(.int 0)])) _
        refine XS.ifYes X8.here hx rfl (pc0 := 29) (pc' := 42) rfl (hb hby at_29) rfl ((if0 _ _).trans (flt (by decide : ¬ ((0 : Int32) < (0 : Int32)))).2.2.2) (by decide) (by decide) ?_
        refine XS.iload X8.here hx rfl (hb hby at_42) rfl ?_
        refine XS.iconst X8.here hx rfl (hb hby at_44) ?_
        show Steps p.tables e below (T8.setTop (mkF m 45 #[uI p1, uL q2, uS, uL q3, uS, uL q4, uS, uL q5, uS, uL q6, uS, uI 0, uI ((((p1.toUInt32 >>> ((3 : Int32) &&& 31).toUInt32).toInt32) &&& (7 : Int32)) % (5 : Int32)), uR bx4, uU, uU, uU, uU, uU, uU, uU, uU, uU, uU, uU] [(.int 1), (.int 0)])) _
        refine XS.icmpYes X8.here hx rfl (pc0 := 45) (pc' := 60) rfl (hb hby at_45) rfl (flt (by decide : ¬ ((1 : Int32) < (0 : Int32)))).2.2.2 (by decide) (by decide) ?_
        refine XS.iload X8.here hx rfl (hb hby at_60) rfl ?_
        refine XS.iconst X8.here hx rfl (hb hby at_62) ?_
        show Steps p.tables e below (T8.setTop (mkF m 63 #[uI p1, uL q2, uS, uL q3, uS, uL q4, uS, uL q5, uS, uL q6, uS, uI 0, uI ((((p1.toUInt32 >>> ((3 : Int32) &&& 31).toUInt32).toInt32) &&& (7 : Int32)) % (5 : Int32)), uR bx4, uU, uU, uU, uU, uU, uU, uU, uU, uU, uU, uU] [(.int 2), (.int 0)])) _
        refine XS.icmpYes X8.here hx rfl (pc0 := 63) (pc' := 79) rfl (hb hby at_63) rfl (flt (by decide : ¬ ((2 : Int32) < (0 : Int32)))).2.2.2 (by decide) (by decide) ?_
        refine XS.iload X8.here hx rfl (hb hby at_79) rfl ?_
        refine XS.iconst X8.here hx rfl (hb hby at_81) ?_
        show Steps p.tables e below (T8.setTop (mkF m 82 #[uI p1, uL q2, uS, uL q3, uS, uL q4, uS, uL q5, uS, uL q6, uS, uI 0, uI ((((p1.toUInt32 >>> ((3 : Int32) &&& 31).toUInt32).toInt32) &&& (7 : Int32)) % (5 : Int32)), uR bx4, uU, uU, uU, uU, uU, uU, uU, uU, uU, uU, uU] [(.int 3), (.int 0)])) _
        refine XS.icmpYes X8.here hx rfl (pc0 := 82) (pc' := 98) rfl (hb hby at_82) rfl (flt (by decide : ¬ ((3 : Int32) < (0 : Int32)))).2.2.2 (by decide) (by decide) ?_
        exact k)
      obtain ⟨dv, hdv⟩ : ∃ z, z = (((p1.toUInt32 >>> ((3 : Int32) &&& 31).toUInt32).toInt32 &&& (7 : Int32)) % (5 : Int32)) := ⟨_, rfl⟩
      have pre19 := pre18
      rw [← hdv] at pre19
      have hd := own_n5 (p1.toUInt32 >>> ((3 : Int32) &&& 31).toUInt32).toInt32
      rw [← hdv] at hd
      -- pc 109: BatchIndex.dropBefore by rmdr00
      obtain ⟨cq20, kq20, q20a, q20b, q20c⟩ := isOf hZ rfl o8_0
      obtain ⟨_, _, ⟨T20, L20, ck20, cn20⟩, -, X20, ⟨Lc20, hQ20, l20, y20, z20⟩, st20⟩ := X8.virtualBack hx (y := (⟨KC, "dropBefore", "(J)V"⟩ : MethodName)) (z := (⟨KC, "dropBefore", "(J)V"⟩ : MethodName)) hown (mvT hZ (own_w hw (i := 18) rfl)) (mvT hZ (own_w hw (i := 19) rfl)) (notFace_of_selects (args := #[]) (mvT hZ (own_w hw (i := 21) rfl))) (mvT hZ (own_w hw (i := 21) rfl)) (mvT hZ (own_w hw (i := 20) rfl)) (by decide) (backOf (W := 0) (rmdr00 l Z a0 hw [] bx4 (((10 : Int64) * (dv.toInt64)) + (1 : Int64)) w_NONE kw T8.heap n0 zs17 o8_0 o8_1 o8_2 o8_3 o8_4 o8_5 (V_w_NONE.ext f10.2) g_bx4 ne5) hZ (own_w hw (i := 22) rfl) (own_w hw (i := 2) rfl) (by decide) (by decide)) q20a q20c (g := (mkF m 109 #[uI p1, uL q2, uS, uL q3, uS, uL q4, uS, uL q5, uS, uL q6, uS, uI 0, uI dv, uR bx4, uU, uU, uU, uU, uU, uU, uU, uU, uU, uU, uU] [(.long (((10 : Int64) * (dv.toInt64)) + (1 : Int64))), (.ref bx4)])) rfl (by rw [hml]; rfl) (Steps.refl _) (argsL := [(.long (((10 : Int64) * (dv.toInt64)) + (1 : Int64)))]) (rest := []) (lenOf pd_333 rfl) rfl (by show 2 * 0 + _ ≤ _; exact Nat.le_of_eq rfl) (hb hby at_109) (fun _ _ => ⟨rfl, rfl, (by decide : 1 + 3 ≤ _), (by decide : 5 + 24 ≤ _)⟩)
      dsimp only [Pt.U, Pt.locs, Pt.cells, Pt.slots] at X20 l20 y20 z20 st20 hQ20
      subst y20 z20
      obtain ⟨n1_20, kn1_20, n2_20, kn2_20, n3_20, kn3_20, rfl, N20q, K20q, gq20_0, gq20_1, gq20_2, sq20_0, sq20_1, sq20_2, nq20_1_0, nq20_2_0, nq20_2_1, o20_0, o20_1, o20_2, o20_3, o20_4⟩ := hQ20
      have N21 : Fr n0 L20 := by rw [l20]; exact Fr.app N9 N20q
      have f28 := f10.keep K20q (allS g_bx4 all0)
      have zs35 : n0 ≤ T20.heap.size := Nat.le_trans zs17 K20q.1
      have pre36 : ∀ t, Steps p.tables e below (T20.setTop (mkF m 112 #[uI p1, uL q2, uS, uL q3, uS, uL q4, uS, uL q5, uS, uL q6, uS, uI 0, uI dv, uR bx4, uU, uU, uU, uU, uU, uU, uU, uU, uU, uU, uU] [])) t → Steps p.tables e below (s₁.setTop (entryFrame m #[(.int p1), (.long q2), (.long q3), (.long q4), (.long q5), (.long q6)] maxLocals)) t := fun t k => pre19 t (by
        show Steps p.tables e below (T8.setTop (mkF m 98 #[uI p1, uL q2, uS, uL q3, uS, uL q4, uS, uL q5, uS, uL q6, uS, uI 0, uI dv, uR bx4, uU, uU, uU, uU, uU, uU, uU, uU, uU, uU, uU] [])) _
        refine XS.aload X8.here hx rfl (hb hby at_98) rfl rfl ?_
        refine X8.ldc2Long hx hown (mvT hZ (own_w hw (i := 17) rfl)) (g := (mkF m 100 #[uI p1, uL q2, uS, uL q3, uS, uL q4, uS, uL q5, uS, uL q6, uS, uI 0, uI dv, uR bx4, uU, uU, uU, uU, uU, uU, uU, uU, uU, uU, uU] [(.ref bx4)])) rfl (hb hby at_100) _ ?_
        refine XS.iload X8.here hx rfl (hb hby at_103) rfl ?_
        refine XS.i2l X8.here hx rfl (hb hby at_105) rfl ?_
        refine XS.lmul X8.here hx rfl (hb hby at_106) rfl ?_
        refine XS.lconst X8.here hx rfl (hb hby at_107) ?_
        refine XS.ladd X8.here hx rfl (hb hby at_108) rfl ?_
        refine st20.trans ?_
        exact k)
      have hR : ((0 : Int32) = (0 : Int32) ∨ (0 : Int32) = (1 : Int32) ∨ (0 : Int32) = (2 : Int32) ∨ (0 : Int32) = (3 : Int32) ∨ (0 : Int32) = (4 : Int32)) ∧ ∀ qq, own_fr (0 : Int32) (0 : Int64) (0 : Int64) (0 : Int64) (0 : Int64) (0 : Int64) qq = own_ex (0 : Int32) (fmn dv (0 : Int32)) q2 (fmj q2 q3) (fmj (fmj q2 q3) q4) (fmj (fmj (fmj q2 q3) q4) q5) qq := by
        refine ⟨by decide, fun qq => ?_⟩
        have c1 := own_cm q3 q2
        have c2 := own_cm q4 (fmj q2 q3)
        have c3 := own_cm q5 (fmj (fmj q2 q3) q4)
        have hk : fmn dv (0 : Int32) = (0 : Int32) := by rcases hd with hd | hd | hd | hd | hd <;> (rw [hd]; decide)
        first | rw [c1, c2, c3, hk] | rw [c1, c2, hk] | rw [c1, hk] | rw [hk] | skip
        exact own_end_0_0 q2 (fmj q2 q3) (fmj (fmj q2 q3) q4) (fmj (fmj (fmj q2 q3) q4) q5) (0 : Int64) (0 : Int64) (0 : Int64) (0 : Int64) qq (own_le _ _) (own_le _ _) (own_le _ _)
      exact kj ⟨(0 : Int32), dv, bx4, n3_20, (0 : Int32), (0 : Int64), kn3_20, (0 : Int64), (0 : Int64), (0 : Int64), (0 : Int64), (0 : Int64), (0 : Int64), (0 : Int64), (0 : Int64), T20.heap, _, T20, o20_0, o20_1, o20_2, o20_3, o20_4, hR, N21, zs35, f28, gq20_2, X20.more (by decide) (by decide), rfl, pre36⟩
    ·  -- n = 1
      have pre37 := pre1
      rw [hn] at pre37
      obtain ⟨T38, h38, X38, e38, E38, A38, D38, -, st38⟩ := newO X0 hx hZ hown (own_w hw (i := 0) rfl) (own_w hw (i := 1) rfl) (own_w hw (i := 2) rfl) e0 (g := (mkF m 18 #[uI p1, uL q2, uS, uL q3, uS, uL q4, uS, uL q5, uS, uL q6, uS, uI 1, uI ((((p1.toUInt32 >>> ((3 : Int32) &&& 31).toUInt32).toInt32) &&& (7 : Int32)) % (5 : Int32)), uU, uU, uU, uU, uU, uU, uU, uU, uU, uU, uU, uU] [])) rfl (hb hby at_18) (by decide) (by decide)
      obtain ⟨bx38, g38⟩ : ∃ z, z = h0.size := ⟨_, rfl⟩
      rw [← g38] at A38 D38 st38
      have g_bx38 : n0 ≤ bx38 := Nat.le_trans Z0 (Nat.le_of_eq g38.symm)
      have ne39 : w_NONE ≠ bx38 := Nat.ne_of_lt (Nat.lt_of_lt_of_le (E_w_NONE.ext O0.2).lt (Nat.le_of_eq g38.symm))
      have f40 := O0.ext E38
      have zs41 : n0 ≤ h38.size := Nat.le_trans Z0 E38.1
      have F_baseOffsets_bx38 : Fld Z h38 bx38 KC KB "[J" .null := D38 (Or.inl (own_w hw (i := 12) rfl)) (ty := (.array .long)) (by decide)
      have F_positions_bx38 : Fld Z h38 bx38 KC KP "[J" .null := D38 (Or.inl (own_w hw (i := 14) rfl)) (ty := (.array .long)) (by decide)
      have F_maxTimestampsSoFar_bx38 : Fld Z h38 bx38 KC KM "[J" .null := D38 (Or.inl (own_w hw (i := 16) rfl)) (ty := (.array .long)) (by decide)
      have F_count_bx38 : Fld Z h38 bx38 KC "count" "I" (.int 0) := D38 (Or.inl (own_w hw (i := 28) rfl)) (ty := .int) (by decide)
      have F_first_bx38 : Fld Z h38 bx38 KC "first" "J" (.long 0) := D38 (Or.inl (own_w hw (i := 40) rfl)) (ty := .long) (by decide)
      -- pc 22: BatchIndex.<init> by rmini
      obtain ⟨_, _, ⟨T42, L42, ck42, cn42⟩, -, X42, ⟨Lc42, hQ42, l42, y42, z42⟩, st42⟩ := X38.specialBack hx (y := (⟨KC, "<init>", "()V"⟩ : MethodName)) rfl hown (mvT hZ (own_w hw (i := 3) rfl)) (mvT hZ (own_w hw (i := 4) rfl)) (mvT hZ (own_w hw (i := 5) rfl)) (by decide) (backOf (W := 1) (rmini l Z a0 hw [] bx38 w_NONE (0 : Int32) (0 : Int64) h38 n0 zs41 A38 F_baseOffsets_bx38 F_positions_bx38 F_maxTimestampsSoFar_bx38 F_count_bx38 F_first_bx38 (S_NONE.ext f40.2) g_bx38) hZ (own_w hw (i := 5) rfl) (own_w hw (i := 2) rfl) (by decide) (by decide)) (g := (mkF m 22 #[uI p1, uL q2, uS, uL q3, uS, uL q4, uS, uL q5, uS, uL q6, uS, uI 1, uI ((((p1.toUInt32 >>> ((3 : Int32) &&& 31).toUInt32).toInt32) &&& (7 : Int32)) % (5 : Int32)), uU, uU, uU, uU, uU, uU, uU, uU, uU, uU, uU, uU] [(.ref bx38), (.ref bx38)])) rfl (by rw [hml]; rfl) (Steps.refl _) (a := bx38) (argsL := []) (rest := [(.ref bx38)]) (lenOf pd_332 rfl) rfl (by show 2 * 0 + _ ≤ _; exact Nat.le_of_eq rfl) (hb hby at_22) (fun _ _ => ⟨rfl, e38, (by decide : 1 + 0 ≤ _), (by decide : 5 + 0 ≤ _)⟩)
      dsimp only [Pt.U, Pt.locs, Pt.cells, Pt.slots] at X42 l42 y42 z42 st42 hQ42
      subst y42 z42
      obtain ⟨rfl, N42q, K42q, o42_0, o42_1, o42_2, o42_3, o42_4, o42_5⟩ := hQ42
      have N43 : Fr n0 L42 := by rw [l42]; exact Fr.app N0 N42q
      have f44 := f40.keep K42q (allS g_bx38 all0)
      have zs51 : n0 ≤ T42.heap.size := Nat.le_trans zs41 K42q.1
      -- pc 39: BatchIndex.add by rmad0
      obtain ⟨cq52, kq52, q52a, q52b, q52c⟩ := isOf hZ rfl o42_0
      obtain ⟨_, _, ⟨T52, L52, ck52, cn52⟩, -, X52, ⟨Lc52, hQ52, l52, y52, z52⟩, st52⟩ := X42.virtualBack hx (y := (⟨KC, "add", "(JJJ)V"⟩ : MethodName)) (z := (⟨KC, "add", "(JJJ)V"⟩ : MethodName)) hown (mvT hZ (own_w hw (i := 70) rfl)) (mvT hZ (own_w hw (i := 71) rfl)) (notFace_of_selects (args := #[]) (mvT hZ (own_w hw (i := 73) rfl))) (mvT hZ (own_w hw (i := 73) rfl)) (mvT hZ (own_w hw (i := 72) rfl)) (by decide) (backOf (W := 0) (rmad0 l Z a0 hw [] bx38 (0 : Int64) (10 : Int64) q2 w_NONE kw (0 : Int64) T42.heap n0 zs51 o42_0 o42_1 o42_2 o42_3 o42_4 o42_5 (V_w_NONE.ext f44.2) g_bx38 ne39) hZ (own_w hw (i := 74) rfl) (own_w hw (i := 2) rfl) (by decide) (by decide)) q52a q52c (g := (mkF m 39 #[uI p1, uL q2, uS, uL q3, uS, uL q4, uS, uL q5, uS, uL q6, uS, uI 1, uI ((((p1.toUInt32 >>> ((3 : Int32) &&& 31).toUInt32).toInt32) &&& (7 : Int32)) % (5 : Int32)), uR bx38, uU, uU, uU, uU, uU, uU, uU, uU, uU, uU, uU] [(.long q2), (.long 10), (.long 0), (.ref bx38)])) rfl (by rw [hml]; rfl) (Steps.refl _) (argsL := [(.long 0), (.long 10), (.long q2)]) (rest := []) (lenOf pd_334 rfl) rfl (by show 2 * 0 + _ ≤ _; exact Nat.le_of_eq rfl) (hb hby at_39) (fun _ _ => ⟨rfl, rfl, (by decide : 1 + 3 ≤ _), (by decide : 5 + 24 ≤ _)⟩)
      dsimp only [Pt.U, Pt.locs, Pt.cells, Pt.slots] at X52 l52 y52 z52 st52 hQ52
      subst y52 z52
      obtain ⟨n1_52, kn1_52, n2_52, kn2_52, n3_52, kn3_52, rfl, N52q, K52q, gq52_0, gq52_1, gq52_2, sq52_0, sq52_1, sq52_2, nq52_1_0, nq52_2_0, nq52_2_1, o52_0, o52_1, o52_2, o52_3, o52_4, o52_5, o52_6, o52_7, o52_8, o52_9, o52_10, o52_11⟩ := hQ52
      have N53 : Fr n0 L52 := by rw [l52]; exact Fr.app N43 N52q
      have ne55 : bx38 ≠ n1_52 := Nat.ne_of_lt (Nat.lt_of_lt_of_le o42_0.lt sq52_0)
      have ne57 : bx38 ≠ n2_52 := Nat.ne_of_lt (Nat.lt_of_lt_of_le o42_0.lt sq52_1)
      have ne59 : bx38 ≠ n3_52 := Nat.ne_of_lt (Nat.lt_of_lt_of_le o42_0.lt sq52_2)
      have f60 := f44.keep K52q (allS g_bx38 all0)
      have zs67 : n0 ≤ T52.heap.size := Nat.le_trans zs51 K52q.1
      have pre68 : ∀ t, Steps p.tables e below (T52.setTop (mkF m 98 #[uI p1, uL q2, uS, uL q3, uS, uL q4, uS, uL q5, uS, uL q6, uS, uI 1, uI ((((p1.toUInt32 >>> ((3 : Int32) &&& 31).toUInt32).toInt32) &&& (7 : Int32)) % (5 : Int32)), uR bx38, uU, uU, uU, uU, uU, uU, uU, uU, uU, uU, uU] [])) t → Steps p.tables e below (s₁.setTop (entryFrame m #[(.int p1), (.long q2), (.long q3), (.long q4), (.long q5), (.long q6)] maxLocals)) t := fun t k => pre37 t (by
        show Steps p.tables e below (s₁.setTop (mkF m 18 #[uI p1, uL q2, uS, uL q3, uS, uL q4, uS, uL q5, uS, uL q6, uS, uI 1, uI ((((p1.toUInt32 >>> ((3 : Int32) &&& 31).toUInt32).toInt32) &&& (7 : Int32)) % (5 : Int32)), uU, uU, uU, uU, uU, uU, uU, uU, uU, uU, uU, uU] [])) _
        refine st38 _ ?_
        refine XS.dup X38.here hx rfl (hb hby at_21) rfl rfl ?_
        refine st42.trans ?_
        refine XS.astore X42.here hx rfl (hb hby at_25) rfl rfl (l' := #[uI p1, uL q2, uS, uL q3, uS, uL q4, uS, uL q5, uS, uL q6, uS, uI 1, uI ((((p1.toUInt32 >>> ((3 : Int32) &&& 31).toUInt32).toInt32) &&& (7 : Int32)) % (5 : Int32)), uR bx38, uU, uU, uU, uU, uU, uU, uU, uU, uU, uU, uU]) rfl ?_
        refine XS.iload X42.here hx rfl (hb hby at_27) rfl ?_
        show Steps p.tables e below (T42.setTop (mkF m 29 #[uI p1, uL q2, uS, uL q3, uS, uL q4, uS, uL q5, uS, uL q6, uS, uI 1, uI ((((p1.toUInt32 >>> ((3 : Int32) &&& 31).toUInt32).toInt32) &&& (7 : Int32)) % (5 : Int32)), uR bx38, uU, uU, uU, uU, uU, uU, uU, uU, uU, uU, uU] [(.int 1)])) _
        refine XS.ifNo X42.here hx rfl (hb hby at_29) rfl ((if0 _ _).trans (tlt (by decide : (0 : Int32) < (1 : Int32))).2.2.2) ?_
        refine XS.aload X42.here hx rfl (hb hby at_32) rfl rfl ?_
        refine XS.lconst X42.here hx rfl (hb hby at_34) ?_
        refine X42.ldc2Long hx hown (mvT hZ (own_w hw (i := 17) rfl)) (g := (mkF m 35 #[uI p1, uL q2, uS, uL q3, uS, uL q4, uS, uL q5, uS, uL q6, uS, uI 1, uI ((((p1.toUInt32 >>> ((3 : Int32) &&& 31).toUInt32).toInt32) &&& (7 : Int32)) % (5 : Int32)), uR bx38, uU, uU, uU, uU, uU, uU, uU, uU, uU, uU, uU] [(.long 0), (.ref bx38)])) rfl (hb hby at_35) _ ?_
        refine XS.lloadN X42.here hx rfl (hb hby at_38) rfl ?_
        refine st52.trans ?_
        refine XS.iload X52.here hx rfl (hb hby at_42) rfl ?_
        refine XS.iconst X52.here hx rfl (hb hby at_44) ?_
        show Steps p.tables e below (T52.setTop (mkF m 45 #[uI p1, uL q2, uS, uL q3, uS, uL q4, uS, uL q5, uS, uL q6, uS, uI 1, uI ((((p1.toUInt32 >>> ((3 : Int32) &&& 31).toUInt32).toInt32) &&& (7 : Int32)) % (5 : Int32)), uR bx38, uU, uU, uU, uU, uU, uU, uU, uU, uU, uU, uU] [(.int 1), (.int 1)])) _
        refine XS.icmpYes X52.here hx rfl (pc0 := 45) (pc' := 60) rfl (hb hby at_45) rfl (flt (by decide : ¬ ((1 : Int32) < (1 : Int32)))).2.2.2 (by decide) (by decide) ?_
        refine XS.iload X52.here hx rfl (hb hby at_60) rfl ?_
        refine XS.iconst X52.here hx rfl (hb hby at_62) ?_
        show Steps p.tables e below (T52.setTop (mkF m 63 #[uI p1, uL q2, uS, uL q3, uS, uL q4, uS, uL q5, uS, uL q6, uS, uI 1, uI ((((p1.toUInt32 >>> ((3 : Int32) &&& 31).toUInt32).toInt32) &&& (7 : Int32)) % (5 : Int32)), uR bx38, uU, uU, uU, uU, uU, uU, uU, uU, uU, uU, uU] [(.int 2), (.int 1)])) _
        refine XS.icmpYes X52.here hx rfl (pc0 := 63) (pc' := 79) rfl (hb hby at_63) rfl (flt (by decide : ¬ ((2 : Int32) < (1 : Int32)))).2.2.2 (by decide) (by decide) ?_
        refine XS.iload X52.here hx rfl (hb hby at_79) rfl ?_
        refine XS.iconst X52.here hx rfl (hb hby at_81) ?_
        show Steps p.tables e below (T52.setTop (mkF m 82 #[uI p1, uL q2, uS, uL q3, uS, uL q4, uS, uL q5, uS, uL q6, uS, uI 1, uI ((((p1.toUInt32 >>> ((3 : Int32) &&& 31).toUInt32).toInt32) &&& (7 : Int32)) % (5 : Int32)), uR bx38, uU, uU, uU, uU, uU, uU, uU, uU, uU, uU, uU] [(.int 3), (.int 1)])) _
        refine XS.icmpYes X52.here hx rfl (pc0 := 82) (pc' := 98) rfl (hb hby at_82) rfl (flt (by decide : ¬ ((3 : Int32) < (1 : Int32)))).2.2.2 (by decide) (by decide) ?_
        exact k)
      obtain ⟨dv, hdv⟩ : ∃ z, z = (((p1.toUInt32 >>> ((3 : Int32) &&& 31).toUInt32).toInt32 &&& (7 : Int32)) % (5 : Int32)) := ⟨_, rfl⟩
      have pre69 := pre68
      rw [← hdv] at pre69
      have hd := own_n5 (p1.toUInt32 >>> ((3 : Int32) &&& 31).toUInt32).toInt32
      rw [← hdv] at hd
      rcases hd with hd | hd
      ·  -- d = 0
        have pre70 := pre69
        rw [hd] at pre70
        -- pc 109: BatchIndex.dropBefore by rmdr10
        obtain ⟨cq71, kq71, q71a, q71b, q71c⟩ := isOf hZ rfl o52_0
        obtain ⟨_, _, ⟨T71, L71, ck71, cn71⟩, -, X71, ⟨Lc71, hQ71, l71, y71, z71⟩, st71⟩ := X52.virtualBack hx (y := (⟨KC, "dropBefore", "(J)V"⟩ : MethodName)) (z := (⟨KC, "dropBefore", "(J)V"⟩ : MethodName)) hown (mvT hZ (own_w hw (i := 18) rfl)) (mvT hZ (own_w hw (i := 19) rfl)) (notFace_of_selects (args := #[]) (mvT hZ (own_w hw (i := 21) rfl))) (mvT hZ (own_w hw (i := 21) rfl)) (mvT hZ (own_w hw (i := 20) rfl)) (by decide) (backOf (W := 0) (rmdr10 l Z a0 hw [] bx38 (1 : Int64) n1_52 n2_52 n3_52 kn1_52 kn2_52 kn3_52 (0 : Int64) (0 : Int64) (0 : Int64) (0 : Int64) (0 : Int64) (0 : Int64) (0 : Int64) (0 : Int64) q2 (0 : Int64) (0 : Int64) (0 : Int64) (0 : Int64) (0 : Int64) (0 : Int64) (0 : Int64) T52.heap n0 zs67 o52_0 o52_1 o52_2 o52_3 o52_4 o52_5 o52_6 o52_8 o52_10 o52_7 o52_9 o52_11 g_bx38 gq52_0 gq52_1 gq52_2 ne55 ne57 ne59 (Ne.symm nq52_1_0) (Ne.symm nq52_2_0) (Ne.symm nq52_2_1) (by decide)) hZ (own_w hw (i := 22) rfl) (own_w hw (i := 2) rfl) (by decide) (by decide)) q71a q71c (g := (mkF m 109 #[uI p1, uL q2, uS, uL q3, uS, uL q4, uS, uL q5, uS, uL q6, uS, uI 1, uI 0, uR bx38, uU, uU, uU, uU, uU, uU, uU, uU, uU, uU, uU] [(.long 1), (.ref bx38)])) rfl (by rw [hml]; rfl) (Steps.refl _) (argsL := [(.long 1)]) (rest := []) (lenOf pd_333 rfl) rfl (by show 2 * 0 + _ ≤ _; exact Nat.le_of_eq rfl) (hb hby at_109) (fun _ _ => ⟨rfl, rfl, (by decide : 4 + 3 ≤ _), (by decide : 29 + 24 ≤ _)⟩)
        dsimp only [Pt.U, Pt.locs, Pt.cells, Pt.slots] at X71 l71 y71 z71 st71 hQ71
        subst y71 z71
        obtain ⟨n1_71, kn1_71, n2_71, kn2_71, n3_71, kn3_71, rfl, N71q, K71q, gq71_0, gq71_1, gq71_2, sq71_0, sq71_1, sq71_2, nq71_1_0, nq71_2_0, nq71_2_1, o71_0, o71_1, o71_2, o71_3, o71_4⟩ := hQ71
        have N72 : Fr n0 L71 := by rw [l71]; exact Fr.app N53 N71q
        have f88 := f60.keep K71q (allS g_bx38 (allS gq52_0 (allS gq52_1 (allS gq52_2 all0))))
        have zs101 : n0 ≤ T71.heap.size := Nat.le_trans zs67 K71q.1
        have pre102 : ∀ t, Steps p.tables e below (T71.setTop (mkF m 112 #[uI p1, uL q2, uS, uL q3, uS, uL q4, uS, uL q5, uS, uL q6, uS, uI 1, uI 0, uR bx38, uU, uU, uU, uU, uU, uU, uU, uU, uU, uU, uU] [])) t → Steps p.tables e below (s₁.setTop (entryFrame m #[(.int p1), (.long q2), (.long q3), (.long q4), (.long q5), (.long q6)] maxLocals)) t := fun t k => pre70 t (by
          show Steps p.tables e below (T52.setTop (mkF m 98 #[uI p1, uL q2, uS, uL q3, uS, uL q4, uS, uL q5, uS, uL q6, uS, uI 1, uI 0, uR bx38, uU, uU, uU, uU, uU, uU, uU, uU, uU, uU, uU] [])) _
          refine XS.aload X52.here hx rfl (hb hby at_98) rfl rfl ?_
          refine X52.ldc2Long hx hown (mvT hZ (own_w hw (i := 17) rfl)) (g := (mkF m 100 #[uI p1, uL q2, uS, uL q3, uS, uL q4, uS, uL q5, uS, uL q6, uS, uI 1, uI 0, uR bx38, uU, uU, uU, uU, uU, uU, uU, uU, uU, uU, uU] [(.ref bx38)])) rfl (hb hby at_100) _ ?_
          refine XS.iload X52.here hx rfl (hb hby at_103) rfl ?_
          refine XS.i2l X52.here hx rfl (hb hby at_105) rfl ?_
          refine XS.lmul X52.here hx rfl (hb hby at_106) rfl ?_
          refine XS.lconst X52.here hx rfl (hb hby at_107) ?_
          refine XS.ladd X52.here hx rfl (hb hby at_108) rfl ?_
          refine st71.trans ?_
          exact k)
        have hR : ((1 : Int32) = (0 : Int32) ∨ (1 : Int32) = (1 : Int32) ∨ (1 : Int32) = (2 : Int32) ∨ (1 : Int32) = (3 : Int32) ∨ (1 : Int32) = (4 : Int32)) ∧ ∀ qq, own_fr (1 : Int32) (0 : Int64) q2 (0 : Int64) (0 : Int64) (0 : Int64) qq = own_ex (1 : Int32) (fmn (0 : Int32) (1 : Int32)) q2 (fmj q2 q3) (fmj (fmj q2 q3) q4) (fmj (fmj (fmj q2 q3) q4) q5) qq := by
          refine ⟨by decide, fun qq => ?_⟩
          have c1 := own_cm q3 q2
          have c2 := own_cm q4 (fmj q2 q3)
          have c3 := own_cm q5 (fmj (fmj q2 q3) q4)
          have hk : fmn (0 : Int32) (1 : Int32) = (0 : Int32) := by decide
          first | rw [c1, c2, c3, hk] | rw [c1, c2, hk] | rw [c1, hk] | rw [hk] | skip
          exact own_end_1_0 q2 (fmj q2 q3) (fmj (fmj q2 q3) q4) (fmj (fmj (fmj q2 q3) q4) q5) 0 (0 : Int64) (0 : Int64) (0 : Int64) qq (own_le _ _) (own_le _ _) (own_le _ _)
        exact kj ⟨(1 : Int32), (0 : Int32), bx38, n3_71, (1 : Int32), (0 : Int64), kn3_71, q2, (0 : Int64), (0 : Int64), (0 : Int64), (0 : Int64), (0 : Int64), (0 : Int64), (0 : Int64), T71.heap, _, T71, o71_0, o71_1, o71_2, o71_3, o71_4, hR, N72, zs101, f88, gq71_2, X71, rfl, pre102⟩
      ·  -- d = 1
        -- pc 109: BatchIndex.dropBefore by rmdr11
        obtain ⟨cq103, kq103, q103a, q103b, q103c⟩ := isOf hZ rfl o52_0
        obtain ⟨_, _, ⟨T103, L103, ck103, cn103⟩, -, X103, ⟨Lc103, hQ103, l103, y103, z103⟩, st103⟩ := X52.virtualBack hx (y := (⟨KC, "dropBefore", "(J)V"⟩ : MethodName)) (z := (⟨KC, "dropBefore", "(J)V"⟩ : MethodName)) hown (mvT hZ (own_w hw (i := 18) rfl)) (mvT hZ (own_w hw (i := 19) rfl)) (notFace_of_selects (args := #[]) (mvT hZ (own_w hw (i := 21) rfl))) (mvT hZ (own_w hw (i := 21) rfl)) (mvT hZ (own_w hw (i := 20) rfl)) (by decide) (backOf (W := 0) (rmdr11 l Z a0 hw [] bx38 (((10 : Int64) * (dv.toInt64)) + (1 : Int64)) n1_52 n2_52 n3_52 kn1_52 kn2_52 kn3_52 (0 : Int64) (0 : Int64) (0 : Int64) (0 : Int64) (0 : Int64) (0 : Int64) (0 : Int64) (0 : Int64) q2 (0 : Int64) (0 : Int64) (0 : Int64) (0 : Int64) (0 : Int64) (0 : Int64) (0 : Int64) T52.heap n0 zs67 o52_0 o52_1 o52_2 o52_3 o52_4 o52_5 o52_6 o52_8 o52_10 o52_7 o52_9 o52_11 g_bx38 gq52_0 gq52_1 gq52_2 ne55 ne57 ne59 (Ne.symm nq52_1_0) (Ne.symm nq52_2_0) (Ne.symm nq52_2_1) (by rcases hd with hd | hd | hd | hd <;> (rw [hd]; decide))) hZ (own_w hw (i := 22) rfl) (own_w hw (i := 2) rfl) (by decide) (by decide)) q103a q103c (g := (mkF m 109 #[uI p1, uL q2, uS, uL q3, uS, uL q4, uS, uL q5, uS, uL q6, uS, uI 1, uI dv, uR bx38, uU, uU, uU, uU, uU, uU, uU, uU, uU, uU, uU] [(.long (((10 : Int64) * (dv.toInt64)) + (1 : Int64))), (.ref bx38)])) rfl (by rw [hml]; rfl) (Steps.refl _) (argsL := [(.long (((10 : Int64) * (dv.toInt64)) + (1 : Int64)))]) (rest := []) (lenOf pd_333 rfl) rfl (by show 2 * 0 + _ ≤ _; exact Nat.le_of_eq rfl) (hb hby at_109) (fun _ _ => ⟨rfl, rfl, (by decide : 4 + 3 ≤ _), (by decide : 29 + 24 ≤ _)⟩)
        dsimp only [Pt.U, Pt.locs, Pt.cells, Pt.slots] at X103 l103 y103 z103 st103 hQ103
        subst y103 z103
        obtain ⟨n1_103, kn1_103, n2_103, kn2_103, n3_103, kn3_103, rfl, N103q, K103q, gq103_0, gq103_1, gq103_2, sq103_0, sq103_1, sq103_2, nq103_1_0, nq103_2_0, nq103_2_1, o103_0, o103_1, o103_2, o103_3, o103_4⟩ := hQ103
        have N104 : Fr n0 L103 := by rw [l103]; exact Fr.app N53 N103q
        have f120 := f60.keep K103q (allS g_bx38 (allS gq52_0 (allS gq52_1 (allS gq52_2 all0))))
        have zs133 : n0 ≤ T103.heap.size := Nat.le_trans zs67 K103q.1
        have pre134 : ∀ t, Steps p.tables e below (T103.setTop (mkF m 112 #[uI p1, uL q2, uS, uL q3, uS, uL q4, uS, uL q5, uS, uL q6, uS, uI 1, uI dv, uR bx38, uU, uU, uU, uU, uU, uU, uU, uU, uU, uU, uU] [])) t → Steps p.tables e below (s₁.setTop (entryFrame m #[(.int p1), (.long q2), (.long q3), (.long q4), (.long q5), (.long q6)] maxLocals)) t := fun t k => pre69 t (by
          show Steps p.tables e below (T52.setTop (mkF m 98 #[uI p1, uL q2, uS, uL q3, uS, uL q4, uS, uL q5, uS, uL q6, uS, uI 1, uI dv, uR bx38, uU, uU, uU, uU, uU, uU, uU, uU, uU, uU, uU] [])) _
          refine XS.aload X52.here hx rfl (hb hby at_98) rfl rfl ?_
          refine X52.ldc2Long hx hown (mvT hZ (own_w hw (i := 17) rfl)) (g := (mkF m 100 #[uI p1, uL q2, uS, uL q3, uS, uL q4, uS, uL q5, uS, uL q6, uS, uI 1, uI dv, uR bx38, uU, uU, uU, uU, uU, uU, uU, uU, uU, uU, uU] [(.ref bx38)])) rfl (hb hby at_100) _ ?_
          refine XS.iload X52.here hx rfl (hb hby at_103) rfl ?_
          refine XS.i2l X52.here hx rfl (hb hby at_105) rfl ?_
          refine XS.lmul X52.here hx rfl (hb hby at_106) rfl ?_
          refine XS.lconst X52.here hx rfl (hb hby at_107) ?_
          refine XS.ladd X52.here hx rfl (hb hby at_108) rfl ?_
          refine st103.trans ?_
          exact k)
        have hR : ((0 : Int32) = (0 : Int32) ∨ (0 : Int32) = (1 : Int32) ∨ (0 : Int32) = (2 : Int32) ∨ (0 : Int32) = (3 : Int32) ∨ (0 : Int32) = (4 : Int32)) ∧ ∀ qq, own_fr (0 : Int32) (1 : Int64) q2 (0 : Int64) (0 : Int64) (0 : Int64) qq = own_ex (1 : Int32) (fmn dv (1 : Int32)) q2 (fmj q2 q3) (fmj (fmj q2 q3) q4) (fmj (fmj (fmj q2 q3) q4) q5) qq := by
          refine ⟨by decide, fun qq => ?_⟩
          have c1 := own_cm q3 q2
          have c2 := own_cm q4 (fmj q2 q3)
          have c3 := own_cm q5 (fmj (fmj q2 q3) q4)
          have hk : fmn dv (1 : Int32) = (1 : Int32) := by rcases hd with hd | hd | hd | hd <;> (rw [hd]; decide)
          first | rw [c1, c2, c3, hk] | rw [c1, c2, hk] | rw [c1, hk] | rw [hk] | skip
          exact own_end_1_1 q2 (fmj q2 q3) (fmj (fmj q2 q3) q4) (fmj (fmj (fmj q2 q3) q4) q5) q2 (0 : Int64) (0 : Int64) (0 : Int64) qq (own_le _ _) (own_le _ _) (own_le _ _)
        exact kj ⟨(1 : Int32), dv, bx38, n3_103, (0 : Int32), (1 : Int64), kn3_103, q2, (0 : Int64), (0 : Int64), (0 : Int64), (0 : Int64), (0 : Int64), (0 : Int64), (0 : Int64), T103.heap, _, T103, o103_0, o103_1, o103_2, o103_3, o103_4, hR, N104, zs133, f120, gq103_2, X103, rfl, pre134⟩
    ·  -- n = 2
      have pre135 := pre1
      rw [hn] at pre135
      obtain ⟨T136, h136, X136, e136, E136, A136, D136, -, st136⟩ := newO X0 hx hZ hown (own_w hw (i := 0) rfl) (own_w hw (i := 1) rfl) (own_w hw (i := 2) rfl) e0 (g := (mkF m 18 #[uI p1, uL q2, uS, uL q3, uS, uL q4, uS, uL q5, uS, uL q6, uS, uI 2, uI ((((p1.toUInt32 >>> ((3 : Int32) &&& 31).toUInt32).toInt32) &&& (7 : Int32)) % (5 : Int32)), uU, uU, uU, uU, uU, uU, uU, uU, uU, uU, uU, uU] [])) rfl (hb hby at_18) (by decide) (by decide)
      obtain ⟨bx136, g136⟩ : ∃ z, z = h0.size := ⟨_, rfl⟩
      rw [← g136] at A136 D136 st136
      have g_bx136 : n0 ≤ bx136 := Nat.le_trans Z0 (Nat.le_of_eq g136.symm)
      have ne137 : w_NONE ≠ bx136 := Nat.ne_of_lt (Nat.lt_of_lt_of_le (E_w_NONE.ext O0.2).lt (Nat.le_of_eq g136.symm))
      have f138 := O0.ext E136
      have zs139 : n0 ≤ h136.size := Nat.le_trans Z0 E136.1
      have F_baseOffsets_bx136 : Fld Z h136 bx136 KC KB "[J" .null := D136 (Or.inl (own_w hw (i := 12) rfl)) (ty := (.array .long)) (by decide)
      have F_positions_bx136 : Fld Z h136 bx136 KC KP "[J" .null := D136 (Or.inl (own_w hw (i := 14) rfl)) (ty := (.array .long)) (by decide)
      have F_maxTimestampsSoFar_bx136 : Fld Z h136 bx136 KC KM "[J" .null := D136 (Or.inl (own_w hw (i := 16) rfl)) (ty := (.array .long)) (by decide)
      have F_count_bx136 : Fld Z h136 bx136 KC "count" "I" (.int 0) := D136 (Or.inl (own_w hw (i := 28) rfl)) (ty := .int) (by decide)
      have F_first_bx136 : Fld Z h136 bx136 KC "first" "J" (.long 0) := D136 (Or.inl (own_w hw (i := 40) rfl)) (ty := .long) (by decide)
      -- pc 22: BatchIndex.<init> by rmini
      obtain ⟨_, _, ⟨T140, L140, ck140, cn140⟩, -, X140, ⟨Lc140, hQ140, l140, y140, z140⟩, st140⟩ := X136.specialBack hx (y := (⟨KC, "<init>", "()V"⟩ : MethodName)) rfl hown (mvT hZ (own_w hw (i := 3) rfl)) (mvT hZ (own_w hw (i := 4) rfl)) (mvT hZ (own_w hw (i := 5) rfl)) (by decide) (backOf (W := 1) (rmini l Z a0 hw [] bx136 w_NONE (0 : Int32) (0 : Int64) h136 n0 zs139 A136 F_baseOffsets_bx136 F_positions_bx136 F_maxTimestampsSoFar_bx136 F_count_bx136 F_first_bx136 (S_NONE.ext f138.2) g_bx136) hZ (own_w hw (i := 5) rfl) (own_w hw (i := 2) rfl) (by decide) (by decide)) (g := (mkF m 22 #[uI p1, uL q2, uS, uL q3, uS, uL q4, uS, uL q5, uS, uL q6, uS, uI 2, uI ((((p1.toUInt32 >>> ((3 : Int32) &&& 31).toUInt32).toInt32) &&& (7 : Int32)) % (5 : Int32)), uU, uU, uU, uU, uU, uU, uU, uU, uU, uU, uU, uU] [(.ref bx136), (.ref bx136)])) rfl (by rw [hml]; rfl) (Steps.refl _) (a := bx136) (argsL := []) (rest := [(.ref bx136)]) (lenOf pd_332 rfl) rfl (by show 2 * 0 + _ ≤ _; exact Nat.le_of_eq rfl) (hb hby at_22) (fun _ _ => ⟨rfl, e136, (by decide : 1 + 0 ≤ _), (by decide : 5 + 0 ≤ _)⟩)
      dsimp only [Pt.U, Pt.locs, Pt.cells, Pt.slots] at X140 l140 y140 z140 st140 hQ140
      subst y140 z140
      obtain ⟨rfl, N140q, K140q, o140_0, o140_1, o140_2, o140_3, o140_4, o140_5⟩ := hQ140
      have N141 : Fr n0 L140 := by rw [l140]; exact Fr.app N0 N140q
      have f142 := f138.keep K140q (allS g_bx136 all0)
      have zs149 : n0 ≤ T140.heap.size := Nat.le_trans zs139 K140q.1
      -- pc 39: BatchIndex.add by rmad0
      obtain ⟨cq150, kq150, q150a, q150b, q150c⟩ := isOf hZ rfl o140_0
      obtain ⟨_, _, ⟨T150, L150, ck150, cn150⟩, -, X150, ⟨Lc150, hQ150, l150, y150, z150⟩, st150⟩ := X140.virtualBack hx (y := (⟨KC, "add", "(JJJ)V"⟩ : MethodName)) (z := (⟨KC, "add", "(JJJ)V"⟩ : MethodName)) hown (mvT hZ (own_w hw (i := 70) rfl)) (mvT hZ (own_w hw (i := 71) rfl)) (notFace_of_selects (args := #[]) (mvT hZ (own_w hw (i := 73) rfl))) (mvT hZ (own_w hw (i := 73) rfl)) (mvT hZ (own_w hw (i := 72) rfl)) (by decide) (backOf (W := 0) (rmad0 l Z a0 hw [] bx136 (0 : Int64) (10 : Int64) q2 w_NONE kw (0 : Int64) T140.heap n0 zs149 o140_0 o140_1 o140_2 o140_3 o140_4 o140_5 (V_w_NONE.ext f142.2) g_bx136 ne137) hZ (own_w hw (i := 74) rfl) (own_w hw (i := 2) rfl) (by decide) (by decide)) q150a q150c (g := (mkF m 39 #[uI p1, uL q2, uS, uL q3, uS, uL q4, uS, uL q5, uS, uL q6, uS, uI 2, uI ((((p1.toUInt32 >>> ((3 : Int32) &&& 31).toUInt32).toInt32) &&& (7 : Int32)) % (5 : Int32)), uR bx136, uU, uU, uU, uU, uU, uU, uU, uU, uU, uU, uU] [(.long q2), (.long 10), (.long 0), (.ref bx136)])) rfl (by rw [hml]; rfl) (Steps.refl _) (argsL := [(.long 0), (.long 10), (.long q2)]) (rest := []) (lenOf pd_334 rfl) rfl (by show 2 * 0 + _ ≤ _; exact Nat.le_of_eq rfl) (hb hby at_39) (fun _ _ => ⟨rfl, rfl, (by decide : 1 + 3 ≤ _), (by decide : 5 + 24 ≤ _)⟩)
      dsimp only [Pt.U, Pt.locs, Pt.cells, Pt.slots] at X150 l150 y150 z150 st150 hQ150
      subst y150 z150
      obtain ⟨n1_150, kn1_150, n2_150, kn2_150, n3_150, kn3_150, rfl, N150q, K150q, gq150_0, gq150_1, gq150_2, sq150_0, sq150_1, sq150_2, nq150_1_0, nq150_2_0, nq150_2_1, o150_0, o150_1, o150_2, o150_3, o150_4, o150_5, o150_6, o150_7, o150_8, o150_9, o150_10, o150_11⟩ := hQ150
      have N151 : Fr n0 L150 := by rw [l150]; exact Fr.app N141 N150q
      have ne153 : bx136 ≠ n1_150 := Nat.ne_of_lt (Nat.lt_of_lt_of_le o140_0.lt sq150_0)
      have ne155 : bx136 ≠ n2_150 := Nat.ne_of_lt (Nat.lt_of_lt_of_le o140_0.lt sq150_1)
      have ne157 : bx136 ≠ n3_150 := Nat.ne_of_lt (Nat.lt_of_lt_of_le o140_0.lt sq150_2)
      have f158 := f142.keep K150q (allS g_bx136 all0)
      have zs165 : n0 ≤ T150.heap.size := Nat.le_trans zs149 K150q.1
      -- pc 57: BatchIndex.add by rmad1
      obtain ⟨cq166, kq166, q166a, q166b, q166c⟩ := isOf hZ rfl o150_0
      obtain ⟨_, _, ⟨T166, L166, ck166, cn166⟩, -, X166, ⟨Lc166, hQ166, l166, y166, z166⟩, st166⟩ := X150.virtualBack hx (y := (⟨KC, "add", "(JJJ)V"⟩ : MethodName)) (z := (⟨KC, "add", "(JJJ)V"⟩ : MethodName)) hown (mvT hZ (own_w hw (i := 70) rfl)) (mvT hZ (own_w hw (i := 71) rfl)) (notFace_of_selects (args := #[]) (mvT hZ (own_w hw (i := 73) rfl))) (mvT hZ (own_w hw (i := 73) rfl)) (mvT hZ (own_w hw (i := 72) rfl)) (by decide) (backOf (W := 0) (rmad1 l Z a0 hw [] bx136 (100 : Int64) (20 : Int64) q3 n1_150 n2_150 n3_150 kn1_150 kn2_150 kn3_150 (0 : Int64) (0 : Int64) (0 : Int64) (0 : Int64) (0 : Int64) (0 : Int64) (0 : Int64) (0 : Int64) (0 : Int64) (10 : Int64) (0 : Int64) (0 : Int64) (0 : Int64) (0 : Int64) (0 : Int64) (0 : Int64) (0 : Int64) q2 (0 : Int64) (0 : Int64) (0 : Int64) (0 : Int64) (0 : Int64) (0 : Int64) (0 : Int64) T150.heap n0 zs165 o150_0 o150_1 o150_2 o150_3 o150_4 o150_5 o150_6 o150_8 o150_10 g_bx136 gq150_0 gq150_1 gq150_2 ne153 ne155 ne157 (Ne.symm nq150_1_0) (Ne.symm nq150_2_0) (Ne.symm nq150_2_1)) hZ (own_w hw (i := 74) rfl) (own_w hw (i := 2) rfl) (by decide) (by decide)) q166a q166c (g := (mkF m 57 #[uI p1, uL q2, uS, uL q3, uS, uL q4, uS, uL q5, uS, uL q6, uS, uI 2, uI ((((p1.toUInt32 >>> ((3 : Int32) &&& 31).toUInt32).toInt32) &&& (7 : Int32)) % (5 : Int32)), uR bx136, uU, uU, uU, uU, uU, uU, uU, uU, uU, uU, uU] [(.long q3), (.long 20), (.long 100), (.ref bx136)])) rfl (by rw [hml]; rfl) (Steps.refl _) (argsL := [(.long 100), (.long 20), (.long q3)]) (rest := []) (lenOf pd_334 rfl) rfl (by show 2 * 0 + _ ≤ _; exact Nat.le_of_eq rfl) (hb hby at_57) (fun _ _ => ⟨rfl, rfl, (by decide : 4 + 0 ≤ _), (by decide : 29 + 0 ≤ _)⟩)
      dsimp only [Pt.U, Pt.locs, Pt.cells, Pt.slots] at X166 l166 y166 z166 st166 hQ166
      subst y166 z166
      obtain ⟨rfl, N166q, K166q, o166_0, o166_1, o166_2, o166_3, o166_4, o166_5, o166_6, o166_7, o166_8⟩ := hQ166
      have N167 : Fr n0 L166 := by rw [l166]; exact Fr.app N151 N166q
      have f168 := f158.keep K166q (allS g_bx136 (allS gq150_0 (allS gq150_1 (allS gq150_2 all0))))
      have f176 := o150_7.keep K166q
      have f178 := o150_9.keep K166q
      have f180 := o150_11.keep K166q
      have zs181 : n0 ≤ T166.heap.size := Nat.le_trans zs165 K166q.1
      have pre182 : ∀ t, Steps p.tables e below (T166.setTop (mkF m 98 #[uI p1, uL q2, uS, uL q3, uS, uL q4, uS, uL q5, uS, uL q6, uS, uI 2, uI ((((p1.toUInt32 >>> ((3 : Int32) &&& 31).toUInt32).toInt32) &&& (7 : Int32)) % (5 : Int32)), uR bx136, uU, uU, uU, uU, uU, uU, uU, uU, uU, uU, uU] [])) t → Steps p.tables e below (s₁.setTop (entryFrame m #[(.int p1), (.long q2), (.long q3), (.long q4), (.long q5), (.long q6)] maxLocals)) t := fun t k => pre135 t (by
        show Steps p.tables e below (s₁.setTop (mkF m 18 #[uI p1, uL q2, uS, uL q3, uS, uL q4, uS, uL q5, uS, uL q6, uS, uI 2, uI ((((p1.toUInt32 >>> ((3 : Int32) &&& 31).toUInt32).toInt32) &&& (7 : Int32)) % (5 : Int32)), uU, uU, uU, uU, uU, uU, uU, uU, uU, uU, uU, uU] [])) _
        refine st136 _ ?_
        refine XS.dup X136.here hx rfl (hb hby at_21) rfl rfl ?_
        refine st140.trans ?_
        refine XS.astore X140.here hx rfl (hb hby at_25) rfl rfl (l' := #[uI p1, uL q2, uS, uL q3, uS, uL q4, uS, uL q5, uS, uL q6, uS, uI 2, uI ((((p1.toUInt32 >>> ((3 : Int32) &&& 31).toUInt32).toInt32) &&& (7 : Int32)) % (5 : Int32)), uR bx136, uU, uU, uU, uU, uU, uU, uU, uU, uU, uU, uU]) rfl ?_
        refine XS.iload X140.here hx rfl (hb hby at_27) rfl ?_
        show Steps p.tables e below (T140.setTop (mkF m 29 #[uI p1, uL q2, uS, uL q3, uS, uL q4, uS, uL q5, uS, uL q6, uS, uI 2, uI ((((p1.toUInt32 >>> ((3 : Int32) &&& 31).toUInt32).toInt32) &&& (7 : Int32)) % (5 : Int32)), uR bx136, uU, uU, uU, uU, uU, uU, uU, uU, uU, uU, uU] [(.int 2)])) _
        refine XS.ifNo X140.here hx rfl (hb hby at_29) rfl ((if0 _ _).trans (tlt (by decide : (0 : Int32) < (2 : Int32))).2.2.2) ?_
        refine XS.aload X140.here hx rfl (hb hby at_32) rfl rfl ?_
        refine XS.lconst X140.here hx rfl (hb hby at_34) ?_
        refine X140.ldc2Long hx hown (mvT hZ (own_w hw (i := 17) rfl)) (g := (mkF m 35 #[uI p1, uL q2, uS, uL q3, uS, uL q4, uS, uL q5, uS, uL q6, uS, uI 2, uI ((((p1.toUInt32 >>> ((3 : Int32) &&& 31).toUInt32).toInt32) &&& (7 : Int32)) % (5 : Int32)), uR bx136, uU, uU, uU, uU, uU, uU, uU, uU, uU, uU, uU] [(.long 0), (.ref bx136)])) rfl (hb hby at_35) _ ?_
        refine XS.lloadN X140.here hx rfl (hb hby at_38) rfl ?_
        refine st150.trans ?_
        refine XS.iload X150.here hx rfl (hb hby at_42) rfl ?_
        refine XS.iconst X150.here hx rfl (hb hby at_44) ?_
        show Steps p.tables e below (T150.setTop (mkF m 45 #[uI p1, uL q2, uS, uL q3, uS, uL q4, uS, uL q5, uS, uL q6, uS, uI 2, uI ((((p1.toUInt32 >>> ((3 : Int32) &&& 31).toUInt32).toInt32) &&& (7 : Int32)) % (5 : Int32)), uR bx136, uU, uU, uU, uU, uU, uU, uU, uU, uU, uU, uU] [(.int 1), (.int 2)])) _
        refine XS.icmpNo X150.here hx rfl (hb hby at_45) rfl (tlt (by decide : (1 : Int32) < (2 : Int32))).2.2.2 ?_
        refine XS.aload X150.here hx rfl (hb hby at_48) rfl rfl ?_
        refine X150.ldc2Long hx hown (mvT hZ (own_w hw (i := 75) rfl)) (g := (mkF m 50 #[uI p1, uL q2, uS, uL q3, uS, uL q4, uS, uL q5, uS, uL q6, uS, uI 2, uI ((((p1.toUInt32 >>> ((3 : Int32) &&& 31).toUInt32).toInt32) &&& (7 : Int32)) % (5 : Int32)), uR bx136, uU, uU, uU, uU, uU, uU, uU, uU, uU, uU, uU] [(.ref bx136)])) rfl (hb hby at_50) _ ?_
        show Steps p.tables e below (T150.setTop (mkF m 53 #[uI p1, uL q2, uS, uL q3, uS, uL q4, uS, uL q5, uS, uL q6, uS, uI 2, uI ((((p1.toUInt32 >>> ((3 : Int32) &&& 31).toUInt32).toInt32) &&& (7 : Int32)) % (5 : Int32)), uR bx136, uU, uU, uU, uU, uU, uU, uU, uU, uU, uU, uU] [(.long 100), (.ref bx136)])) _
        refine X150.ldc2Long hx hown (mvT hZ (own_w hw (i := 76) rfl)) (g := (mkF m 53 #[uI p1, uL q2, uS, uL q3, uS, uL q4, uS, uL q5, uS, uL q6, uS, uI 2, uI ((((p1.toUInt32 >>> ((3 : Int32) &&& 31).toUInt32).toInt32) &&& (7 : Int32)) % (5 : Int32)), uR bx136, uU, uU, uU, uU, uU, uU, uU, uU, uU, uU, uU] [(.long 100), (.ref bx136)])) rfl (hb hby at_53) _ ?_
        refine XS.lloadN X150.here hx rfl (hb hby at_56) rfl ?_
        refine st166.trans ?_
        refine XS.iload X166.here hx rfl (hb hby at_60) rfl ?_
        refine XS.iconst X166.here hx rfl (hb hby at_62) ?_
        show Steps p.tables e below (T166.setTop (mkF m 63 #[uI p1, uL q2, uS, uL q3, uS, uL q4, uS, uL q5, uS, uL q6, uS, uI 2, uI ((((p1.toUInt32 >>> ((3 : Int32) &&& 31).toUInt32).toInt32) &&& (7 : Int32)) % (5 : Int32)), uR bx136, uU, uU, uU, uU, uU, uU, uU, uU, uU, uU, uU] [(.int 2), (.int 2)])) _
        refine XS.icmpYes X166.here hx rfl (pc0 := 63) (pc' := 79) rfl (hb hby at_63) rfl (flt (by decide : ¬ ((2 : Int32) < (2 : Int32)))).2.2.2 (by decide) (by decide) ?_
        refine XS.iload X166.here hx rfl (hb hby at_79) rfl ?_
        refine XS.iconst X166.here hx rfl (hb hby at_81) ?_
        show Steps p.tables e below (T166.setTop (mkF m 82 #[uI p1, uL q2, uS, uL q3, uS, uL q4, uS, uL q5, uS, uL q6, uS, uI 2, uI ((((p1.toUInt32 >>> ((3 : Int32) &&& 31).toUInt32).toInt32) &&& (7 : Int32)) % (5 : Int32)), uR bx136, uU, uU, uU, uU, uU, uU, uU, uU, uU, uU, uU] [(.int 3), (.int 2)])) _
        refine XS.icmpYes X166.here hx rfl (pc0 := 82) (pc' := 98) rfl (hb hby at_82) rfl (flt (by decide : ¬ ((3 : Int32) < (2 : Int32)))).2.2.2 (by decide) (by decide) ?_
        exact k)
      obtain ⟨dv, hdv⟩ : ∃ z, z = (((p1.toUInt32 >>> ((3 : Int32) &&& 31).toUInt32).toInt32 &&& (7 : Int32)) % (5 : Int32)) := ⟨_, rfl⟩
      have pre183 := pre182
      rw [← hdv] at pre183
      have hd := own_n5 (p1.toUInt32 >>> ((3 : Int32) &&& 31).toUInt32).toInt32
      rw [← hdv] at hd
      rcases hd with hd | hd | hd
      ·  -- d = 0
        have pre184 := pre183
        rw [hd] at pre184
        -- pc 109: BatchIndex.dropBefore by rmdr20
        obtain ⟨cq185, kq185, q185a, q185b, q185c⟩ := isOf hZ rfl o166_0
        obtain ⟨_, _, ⟨T185, L185, ck185, cn185⟩, -, X185, ⟨Lc185, hQ185, l185, y185, z185⟩, st185⟩ := X166.virtualBack hx (y := (⟨KC, "dropBefore", "(J)V"⟩ : MethodName)) (z := (⟨KC, "dropBefore", "(J)V"⟩ : MethodName)) hown (mvT hZ (own_w hw (i := 18) rfl)) (mvT hZ (own_w hw (i := 19) rfl)) (notFace_of_selects (args := #[]) (mvT hZ (own_w hw (i := 21) rfl))) (mvT hZ (own_w hw (i := 21) rfl)) (mvT hZ (own_w hw (i := 20) rfl)) (by decide) (backOf (W := 0) (rmdr20 l Z a0 hw [] bx136 (1 : Int64) n1_150 n2_150 n3_150 kn1_150 kn2_150 kn3_150 (0 : Int64) (100 : Int64) (0 : Int64) (0 : Int64) (0 : Int64) (0 : Int64) (0 : Int64) (0 : Int64) q2 (fmj q3 q2) (0 : Int64) (0 : Int64) (0 : Int64) (0 : Int64) (0 : Int64) (0 : Int64) T166.heap n0 zs181 o166_0 o166_1 o166_2 o166_3 o166_4 o166_5 o166_6 o166_7 o166_8 f176 f178 f180 g_bx136 gq150_0 gq150_1 gq150_2 ne153 ne155 ne157 (Ne.symm nq150_1_0) (Ne.symm nq150_2_0) (Ne.symm nq150_2_1) (by decide)) hZ (own_w hw (i := 22) rfl) (own_w hw (i := 2) rfl) (by decide) (by decide)) q185a q185c (g := (mkF m 109 #[uI p1, uL q2, uS, uL q3, uS, uL q4, uS, uL q5, uS, uL q6, uS, uI 2, uI 0, uR bx136, uU, uU, uU, uU, uU, uU, uU, uU, uU, uU, uU] [(.long 1), (.ref bx136)])) rfl (by rw [hml]; rfl) (Steps.refl _) (argsL := [(.long 1)]) (rest := []) (lenOf pd_333 rfl) rfl (by show 2 * 0 + _ ≤ _; exact Nat.le_of_eq rfl) (hb hby at_109) (fun _ _ => ⟨rfl, rfl, (by decide : 4 + 3 ≤ _), (by decide : 29 + 24 ≤ _)⟩)
        dsimp only [Pt.U, Pt.locs, Pt.cells, Pt.slots] at X185 l185 y185 z185 st185 hQ185
        subst y185 z185
        obtain ⟨n1_185, kn1_185, n2_185, kn2_185, n3_185, kn3_185, rfl, N185q, K185q, gq185_0, gq185_1, gq185_2, sq185_0, sq185_1, sq185_2, nq185_1_0, nq185_2_0, nq185_2_1, o185_0, o185_1, o185_2, o185_3, o185_4⟩ := hQ185
        have N186 : Fr n0 L185 := by rw [l185]; exact Fr.app N167 N185q
        have f202 := f168.keep K185q (allS g_bx136 (allS gq150_0 (allS gq150_1 (allS gq150_2 all0))))
        have zs215 : n0 ≤ T185.heap.size := Nat.le_trans zs181 K185q.1
        have pre216 : ∀ t, Steps p.tables e below (T185.setTop (mkF m 112 #[uI p1, uL q2, uS, uL q3, uS, uL q4, uS, uL q5, uS, uL q6, uS, uI 2, uI 0, uR bx136, uU, uU, uU, uU, uU, uU, uU, uU, uU, uU, uU] [])) t → Steps p.tables e below (s₁.setTop (entryFrame m #[(.int p1), (.long q2), (.long q3), (.long q4), (.long q5), (.long q6)] maxLocals)) t := fun t k => pre184 t (by
          show Steps p.tables e below (T166.setTop (mkF m 98 #[uI p1, uL q2, uS, uL q3, uS, uL q4, uS, uL q5, uS, uL q6, uS, uI 2, uI 0, uR bx136, uU, uU, uU, uU, uU, uU, uU, uU, uU, uU, uU] [])) _
          refine XS.aload X166.here hx rfl (hb hby at_98) rfl rfl ?_
          refine X166.ldc2Long hx hown (mvT hZ (own_w hw (i := 17) rfl)) (g := (mkF m 100 #[uI p1, uL q2, uS, uL q3, uS, uL q4, uS, uL q5, uS, uL q6, uS, uI 2, uI 0, uR bx136, uU, uU, uU, uU, uU, uU, uU, uU, uU, uU, uU] [(.ref bx136)])) rfl (hb hby at_100) _ ?_
          refine XS.iload X166.here hx rfl (hb hby at_103) rfl ?_
          refine XS.i2l X166.here hx rfl (hb hby at_105) rfl ?_
          refine XS.lmul X166.here hx rfl (hb hby at_106) rfl ?_
          refine XS.lconst X166.here hx rfl (hb hby at_107) ?_
          refine XS.ladd X166.here hx rfl (hb hby at_108) rfl ?_
          refine st185.trans ?_
          exact k)
        have hR : ((2 : Int32) = (0 : Int32) ∨ (2 : Int32) = (1 : Int32) ∨ (2 : Int32) = (2 : Int32) ∨ (2 : Int32) = (3 : Int32) ∨ (2 : Int32) = (4 : Int32)) ∧ ∀ qq, own_fr (2 : Int32) (0 : Int64) q2 (fmj q3 q2) (0 : Int64) (0 : Int64) qq = own_ex (2 : Int32) (fmn (0 : Int32) (2 : Int32)) q2 (fmj q2 q3) (fmj (fmj q2 q3) q4) (fmj (fmj (fmj q2 q3) q4) q5) qq := by
          refine ⟨by decide, fun qq => ?_⟩
          have c1 := own_cm q3 q2
          have c2 := own_cm q4 (fmj q2 q3)
          have c3 := own_cm q5 (fmj (fmj q2 q3) q4)
          have hk : fmn (0 : Int32) (2 : Int32) = (0 : Int32) := by decide
          first | rw [c1, c2, c3, hk] | rw [c1, c2, hk] | rw [c1, hk] | rw [hk] | skip
          exact own_end_2_0 q2 (fmj q2 q3) (fmj (fmj q2 q3) q4) (fmj (fmj (fmj q2 q3) q4) q5) 0 0 (0 : Int64) (0 : Int64) qq (own_le _ _) (own_le _ _) (own_le _ _)
        exact kj ⟨(2 : Int32), (0 : Int32), bx136, n3_185, (2 : Int32), (0 : Int64), kn3_185, q2, (fmj q3 q2), (0 : Int64), (0 : Int64), (0 : Int64), (0 : Int64), (0 : Int64), (0 : Int64), T185.heap, _, T185, o185_0, o185_1, o185_2, o185_3, o185_4, hR, N186, zs215, f202, gq185_2, X185, rfl, pre216⟩
      ·  -- d = 1
        have pre217 := pre183
        rw [hd] at pre217
        -- pc 109: BatchIndex.dropBefore by rmdr21
        obtain ⟨cq218, kq218, q218a, q218b, q218c⟩ := isOf hZ rfl o166_0
        obtain ⟨_, _, ⟨T218, L218, ck218, cn218⟩, -, X218, ⟨Lc218, hQ218, l218, y218, z218⟩, st218⟩ := X166.virtualBack hx (y := (⟨KC, "dropBefore", "(J)V"⟩ : MethodName)) (z := (⟨KC, "dropBefore", "(J)V"⟩ : MethodName)) hown (mvT hZ (own_w hw (i := 18) rfl)) (mvT hZ (own_w hw (i := 19) rfl)) (notFace_of_selects (args := #[]) (mvT hZ (own_w hw (i := 21) rfl))) (mvT hZ (own_w hw (i := 21) rfl)) (mvT hZ (own_w hw (i := 20) rfl)) (by decide) (backOf (W := 0) (rmdr21 l Z a0 hw [] bx136 (11 : Int64) n1_150 n2_150 n3_150 kn1_150 kn2_150 kn3_150 (0 : Int64) (100 : Int64) (0 : Int64) (0 : Int64) (0 : Int64) (0 : Int64) (0 : Int64) (0 : Int64) q2 (fmj q3 q2) (0 : Int64) (0 : Int64) (0 : Int64) (0 : Int64) (0 : Int64) (0 : Int64) T166.heap n0 zs181 o166_0 o166_1 o166_2 o166_3 o166_4 o166_5 o166_6 o166_7 o166_8 f176 f178 f180 g_bx136 gq150_0 gq150_1 gq150_2 ne153 ne155 ne157 (Ne.symm nq150_1_0) (Ne.symm nq150_2_0) (Ne.symm nq150_2_1) (by decide)) hZ (own_w hw (i := 22) rfl) (own_w hw (i := 2) rfl) (by decide) (by decide)) q218a q218c (g := (mkF m 109 #[uI p1, uL q2, uS, uL q3, uS, uL q4, uS, uL q5, uS, uL q6, uS, uI 2, uI 1, uR bx136, uU, uU, uU, uU, uU, uU, uU, uU, uU, uU, uU] [(.long 11), (.ref bx136)])) rfl (by rw [hml]; rfl) (Steps.refl _) (argsL := [(.long 11)]) (rest := []) (lenOf pd_333 rfl) rfl (by show 2 * 0 + _ ≤ _; exact Nat.le_of_eq rfl) (hb hby at_109) (fun _ _ => ⟨rfl, rfl, (by decide : 4 + 3 ≤ _), (by decide : 29 + 24 ≤ _)⟩)
        dsimp only [Pt.U, Pt.locs, Pt.cells, Pt.slots] at X218 l218 y218 z218 st218 hQ218
        subst y218 z218
        obtain ⟨n1_218, kn1_218, n2_218, kn2_218, n3_218, kn3_218, rfl, N218q, K218q, gq218_0, gq218_1, gq218_2, sq218_0, sq218_1, sq218_2, nq218_1_0, nq218_2_0, nq218_2_1, o218_0, o218_1, o218_2, o218_3, o218_4⟩ := hQ218
        have N219 : Fr n0 L218 := by rw [l218]; exact Fr.app N167 N218q
        have f235 := f168.keep K218q (allS g_bx136 (allS gq150_0 (allS gq150_1 (allS gq150_2 all0))))
        have zs248 : n0 ≤ T218.heap.size := Nat.le_trans zs181 K218q.1
        have pre249 : ∀ t, Steps p.tables e below (T218.setTop (mkF m 112 #[uI p1, uL q2, uS, uL q3, uS, uL q4, uS, uL q5, uS, uL q6, uS, uI 2, uI 1, uR bx136, uU, uU, uU, uU, uU, uU, uU, uU, uU, uU, uU] [])) t → Steps p.tables e below (s₁.setTop (entryFrame m #[(.int p1), (.long q2), (.long q3), (.long q4), (.long q5), (.long q6)] maxLocals)) t := fun t k => pre217 t (by
          show Steps p.tables e below (T166.setTop (mkF m 98 #[uI p1, uL q2, uS, uL q3, uS, uL q4, uS, uL q5, uS, uL q6, uS, uI 2, uI 1, uR bx136, uU, uU, uU, uU, uU, uU, uU, uU, uU, uU, uU] [])) _
          refine XS.aload X166.here hx rfl (hb hby at_98) rfl rfl ?_
          refine X166.ldc2Long hx hown (mvT hZ (own_w hw (i := 17) rfl)) (g := (mkF m 100 #[uI p1, uL q2, uS, uL q3, uS, uL q4, uS, uL q5, uS, uL q6, uS, uI 2, uI 1, uR bx136, uU, uU, uU, uU, uU, uU, uU, uU, uU, uU, uU] [(.ref bx136)])) rfl (hb hby at_100) _ ?_
          refine XS.iload X166.here hx rfl (hb hby at_103) rfl ?_
          refine XS.i2l X166.here hx rfl (hb hby at_105) rfl ?_
          refine XS.lmul X166.here hx rfl (hb hby at_106) rfl ?_
          refine XS.lconst X166.here hx rfl (hb hby at_107) ?_
          refine XS.ladd X166.here hx rfl (hb hby at_108) rfl ?_
          refine st218.trans ?_
          exact k)
        have hR : ((1 : Int32) = (0 : Int32) ∨ (1 : Int32) = (1 : Int32) ∨ (1 : Int32) = (2 : Int32) ∨ (1 : Int32) = (3 : Int32) ∨ (1 : Int32) = (4 : Int32)) ∧ ∀ qq, own_fr (1 : Int32) (1 : Int64) (fmj q3 q2) (fmj q3 q2) (0 : Int64) (0 : Int64) qq = own_ex (2 : Int32) (fmn (1 : Int32) (2 : Int32)) q2 (fmj q2 q3) (fmj (fmj q2 q3) q4) (fmj (fmj (fmj q2 q3) q4) q5) qq := by
          refine ⟨by decide, fun qq => ?_⟩
          have c1 := own_cm q3 q2
          have c2 := own_cm q4 (fmj q2 q3)
          have c3 := own_cm q5 (fmj (fmj q2 q3) q4)
          have hk : fmn (1 : Int32) (2 : Int32) = (1 : Int32) := by decide
          first | rw [c1, c2, c3, hk] | rw [c1, c2, hk] | rw [c1, hk] | rw [hk] | skip
          exact own_end_2_1 q2 (fmj q2 q3) (fmj (fmj q2 q3) q4) (fmj (fmj (fmj q2 q3) q4) q5) 0 (fmj q2 q3) (0 : Int64) (0 : Int64) qq (own_le _ _) (own_le _ _) (own_le _ _)
        exact kj ⟨(2 : Int32), (1 : Int32), bx136, n3_218, (1 : Int32), (1 : Int64), kn3_218, (fmj q3 q2), (fmj q3 q2), (0 : Int64), (0 : Int64), (0 : Int64), (0 : Int64), (0 : Int64), (0 : Int64), T218.heap, _, T218, o218_0, o218_1, o218_2, o218_3, o218_4, hR, N219, zs248, f235, gq218_2, X218, rfl, pre249⟩
      ·  -- d = 2
        -- pc 109: BatchIndex.dropBefore by rmdr22
        obtain ⟨cq250, kq250, q250a, q250b, q250c⟩ := isOf hZ rfl o166_0
        obtain ⟨_, _, ⟨T250, L250, ck250, cn250⟩, -, X250, ⟨Lc250, hQ250, l250, y250, z250⟩, st250⟩ := X166.virtualBack hx (y := (⟨KC, "dropBefore", "(J)V"⟩ : MethodName)) (z := (⟨KC, "dropBefore", "(J)V"⟩ : MethodName)) hown (mvT hZ (own_w hw (i := 18) rfl)) (mvT hZ (own_w hw (i := 19) rfl)) (notFace_of_selects (args := #[]) (mvT hZ (own_w hw (i := 21) rfl))) (mvT hZ (own_w hw (i := 21) rfl)) (mvT hZ (own_w hw (i := 20) rfl)) (by decide) (backOf (W := 0) (rmdr22 l Z a0 hw [] bx136 (((10 : Int64) * (dv.toInt64)) + (1 : Int64)) n1_150 n2_150 n3_150 kn1_150 kn2_150 kn3_150 (0 : Int64) (100 : Int64) (0 : Int64) (0 : Int64) (0 : Int64) (0 : Int64) (0 : Int64) (0 : Int64) q2 (fmj q3 q2) (0 : Int64) (0 : Int64) (0 : Int64) (0 : Int64) (0 : Int64) (0 : Int64) T166.heap n0 zs181 o166_0 o166_1 o166_2 o166_3 o166_4 o166_5 o166_6 o166_7 o166_8 f176 f178 f180 g_bx136 gq150_0 gq150_1 gq150_2 ne153 ne155 ne157 (Ne.symm nq150_1_0) (Ne.symm nq150_2_0) (Ne.symm nq150_2_1) (by rcases hd with hd | hd | hd <;> (rw [hd]; decide))) hZ (own_w hw (i := 22) rfl) (own_w hw (i := 2) rfl) (by decide) (by decide)) q250a q250c (g := (mkF m 109 #[uI p1, uL q2, uS, uL q3, uS, uL q4, uS, uL q5, uS, uL q6, uS, uI 2, uI dv, uR bx136, uU, uU, uU, uU, uU, uU, uU, uU, uU, uU, uU] [(.long (((10 : Int64) * (dv.toInt64)) + (1 : Int64))), (.ref bx136)])) rfl (by rw [hml]; rfl) (Steps.refl _) (argsL := [(.long (((10 : Int64) * (dv.toInt64)) + (1 : Int64)))]) (rest := []) (lenOf pd_333 rfl) rfl (by show 2 * 0 + _ ≤ _; exact Nat.le_of_eq rfl) (hb hby at_109) (fun _ _ => ⟨rfl, rfl, (by decide : 4 + 3 ≤ _), (by decide : 29 + 24 ≤ _)⟩)
        dsimp only [Pt.U, Pt.locs, Pt.cells, Pt.slots] at X250 l250 y250 z250 st250 hQ250
        subst y250 z250
        obtain ⟨n1_250, kn1_250, n2_250, kn2_250, n3_250, kn3_250, rfl, N250q, K250q, gq250_0, gq250_1, gq250_2, sq250_0, sq250_1, sq250_2, nq250_1_0, nq250_2_0, nq250_2_1, o250_0, o250_1, o250_2, o250_3, o250_4⟩ := hQ250
        have N251 : Fr n0 L250 := by rw [l250]; exact Fr.app N167 N250q
        have f267 := f168.keep K250q (allS g_bx136 (allS gq150_0 (allS gq150_1 (allS gq150_2 all0))))
        have zs280 : n0 ≤ T250.heap.size := Nat.le_trans zs181 K250q.1
        have pre281 : ∀ t, Steps p.tables e below (T250.setTop (mkF m 112 #[uI p1, uL q2, uS, uL q3, uS, uL q4, uS, uL q5, uS, uL q6, uS, uI 2, uI dv, uR bx136, uU, uU, uU, uU, uU, uU, uU, uU, uU, uU, uU] [])) t → Steps p.tables e below (s₁.setTop (entryFrame m #[(.int p1), (.long q2), (.long q3), (.long q4), (.long q5), (.long q6)] maxLocals)) t := fun t k => pre183 t (by
          show Steps p.tables e below (T166.setTop (mkF m 98 #[uI p1, uL q2, uS, uL q3, uS, uL q4, uS, uL q5, uS, uL q6, uS, uI 2, uI dv, uR bx136, uU, uU, uU, uU, uU, uU, uU, uU, uU, uU, uU] [])) _
          refine XS.aload X166.here hx rfl (hb hby at_98) rfl rfl ?_
          refine X166.ldc2Long hx hown (mvT hZ (own_w hw (i := 17) rfl)) (g := (mkF m 100 #[uI p1, uL q2, uS, uL q3, uS, uL q4, uS, uL q5, uS, uL q6, uS, uI 2, uI dv, uR bx136, uU, uU, uU, uU, uU, uU, uU, uU, uU, uU, uU] [(.ref bx136)])) rfl (hb hby at_100) _ ?_
          refine XS.iload X166.here hx rfl (hb hby at_103) rfl ?_
          refine XS.i2l X166.here hx rfl (hb hby at_105) rfl ?_
          refine XS.lmul X166.here hx rfl (hb hby at_106) rfl ?_
          refine XS.lconst X166.here hx rfl (hb hby at_107) ?_
          refine XS.ladd X166.here hx rfl (hb hby at_108) rfl ?_
          refine st250.trans ?_
          exact k)
        have hR : ((0 : Int32) = (0 : Int32) ∨ (0 : Int32) = (1 : Int32) ∨ (0 : Int32) = (2 : Int32) ∨ (0 : Int32) = (3 : Int32) ∨ (0 : Int32) = (4 : Int32)) ∧ ∀ qq, own_fr (0 : Int32) (2 : Int64) q2 (fmj q3 q2) (0 : Int64) (0 : Int64) qq = own_ex (2 : Int32) (fmn dv (2 : Int32)) q2 (fmj q2 q3) (fmj (fmj q2 q3) q4) (fmj (fmj (fmj q2 q3) q4) q5) qq := by
          refine ⟨by decide, fun qq => ?_⟩
          have c1 := own_cm q3 q2
          have c2 := own_cm q4 (fmj q2 q3)
          have c3 := own_cm q5 (fmj (fmj q2 q3) q4)
          have hk : fmn dv (2 : Int32) = (2 : Int32) := by rcases hd with hd | hd | hd <;> (rw [hd]; decide)
          first | rw [c1, c2, c3, hk] | rw [c1, c2, hk] | rw [c1, hk] | rw [hk] | skip
          exact own_end_2_2 q2 (fmj q2 q3) (fmj (fmj q2 q3) q4) (fmj (fmj (fmj q2 q3) q4) q5) q2 (fmj q2 q3) (0 : Int64) (0 : Int64) qq (own_le _ _) (own_le _ _) (own_le _ _)
        exact kj ⟨(2 : Int32), dv, bx136, n3_250, (0 : Int32), (2 : Int64), kn3_250, q2, (fmj q3 q2), (0 : Int64), (0 : Int64), (0 : Int64), (0 : Int64), (0 : Int64), (0 : Int64), T250.heap, _, T250, o250_0, o250_1, o250_2, o250_3, o250_4, hR, N251, zs280, f267, gq250_2, X250, rfl, pre281⟩
    ·  -- n = 3
      have pre282 := pre1
      rw [hn] at pre282
      obtain ⟨T283, h283, X283, e283, E283, A283, D283, -, st283⟩ := newO X0 hx hZ hown (own_w hw (i := 0) rfl) (own_w hw (i := 1) rfl) (own_w hw (i := 2) rfl) e0 (g := (mkF m 18 #[uI p1, uL q2, uS, uL q3, uS, uL q4, uS, uL q5, uS, uL q6, uS, uI 3, uI ((((p1.toUInt32 >>> ((3 : Int32) &&& 31).toUInt32).toInt32) &&& (7 : Int32)) % (5 : Int32)), uU, uU, uU, uU, uU, uU, uU, uU, uU, uU, uU, uU] [])) rfl (hb hby at_18) (by decide) (by decide)
      obtain ⟨bx283, g283⟩ : ∃ z, z = h0.size := ⟨_, rfl⟩
      rw [← g283] at A283 D283 st283
      have g_bx283 : n0 ≤ bx283 := Nat.le_trans Z0 (Nat.le_of_eq g283.symm)
      have ne284 : w_NONE ≠ bx283 := Nat.ne_of_lt (Nat.lt_of_lt_of_le (E_w_NONE.ext O0.2).lt (Nat.le_of_eq g283.symm))
      have f285 := O0.ext E283
      have zs286 : n0 ≤ h283.size := Nat.le_trans Z0 E283.1
      have F_baseOffsets_bx283 : Fld Z h283 bx283 KC KB "[J" .null := D283 (Or.inl (own_w hw (i := 12) rfl)) (ty := (.array .long)) (by decide)
      have F_positions_bx283 : Fld Z h283 bx283 KC KP "[J" .null := D283 (Or.inl (own_w hw (i := 14) rfl)) (ty := (.array .long)) (by decide)
      have F_maxTimestampsSoFar_bx283 : Fld Z h283 bx283 KC KM "[J" .null := D283 (Or.inl (own_w hw (i := 16) rfl)) (ty := (.array .long)) (by decide)
      have F_count_bx283 : Fld Z h283 bx283 KC "count" "I" (.int 0) := D283 (Or.inl (own_w hw (i := 28) rfl)) (ty := .int) (by decide)
      have F_first_bx283 : Fld Z h283 bx283 KC "first" "J" (.long 0) := D283 (Or.inl (own_w hw (i := 40) rfl)) (ty := .long) (by decide)
      -- pc 22: BatchIndex.<init> by rmini
      obtain ⟨_, _, ⟨T287, L287, ck287, cn287⟩, -, X287, ⟨Lc287, hQ287, l287, y287, z287⟩, st287⟩ := X283.specialBack hx (y := (⟨KC, "<init>", "()V"⟩ : MethodName)) rfl hown (mvT hZ (own_w hw (i := 3) rfl)) (mvT hZ (own_w hw (i := 4) rfl)) (mvT hZ (own_w hw (i := 5) rfl)) (by decide) (backOf (W := 1) (rmini l Z a0 hw [] bx283 w_NONE (0 : Int32) (0 : Int64) h283 n0 zs286 A283 F_baseOffsets_bx283 F_positions_bx283 F_maxTimestampsSoFar_bx283 F_count_bx283 F_first_bx283 (S_NONE.ext f285.2) g_bx283) hZ (own_w hw (i := 5) rfl) (own_w hw (i := 2) rfl) (by decide) (by decide)) (g := (mkF m 22 #[uI p1, uL q2, uS, uL q3, uS, uL q4, uS, uL q5, uS, uL q6, uS, uI 3, uI ((((p1.toUInt32 >>> ((3 : Int32) &&& 31).toUInt32).toInt32) &&& (7 : Int32)) % (5 : Int32)), uU, uU, uU, uU, uU, uU, uU, uU, uU, uU, uU, uU] [(.ref bx283), (.ref bx283)])) rfl (by rw [hml]; rfl) (Steps.refl _) (a := bx283) (argsL := []) (rest := [(.ref bx283)]) (lenOf pd_332 rfl) rfl (by show 2 * 0 + _ ≤ _; exact Nat.le_of_eq rfl) (hb hby at_22) (fun _ _ => ⟨rfl, e283, (by decide : 1 + 0 ≤ _), (by decide : 5 + 0 ≤ _)⟩)
      dsimp only [Pt.U, Pt.locs, Pt.cells, Pt.slots] at X287 l287 y287 z287 st287 hQ287
      subst y287 z287
      obtain ⟨rfl, N287q, K287q, o287_0, o287_1, o287_2, o287_3, o287_4, o287_5⟩ := hQ287
      have N288 : Fr n0 L287 := by rw [l287]; exact Fr.app N0 N287q
      have f289 := f285.keep K287q (allS g_bx283 all0)
      have zs296 : n0 ≤ T287.heap.size := Nat.le_trans zs286 K287q.1
      -- pc 39: BatchIndex.add by rmad0
      obtain ⟨cq297, kq297, q297a, q297b, q297c⟩ := isOf hZ rfl o287_0
      obtain ⟨_, _, ⟨T297, L297, ck297, cn297⟩, -, X297, ⟨Lc297, hQ297, l297, y297, z297⟩, st297⟩ := X287.virtualBack hx (y := (⟨KC, "add", "(JJJ)V"⟩ : MethodName)) (z := (⟨KC, "add", "(JJJ)V"⟩ : MethodName)) hown (mvT hZ (own_w hw (i := 70) rfl)) (mvT hZ (own_w hw (i := 71) rfl)) (notFace_of_selects (args := #[]) (mvT hZ (own_w hw (i := 73) rfl))) (mvT hZ (own_w hw (i := 73) rfl)) (mvT hZ (own_w hw (i := 72) rfl)) (by decide) (backOf (W := 0) (rmad0 l Z a0 hw [] bx283 (0 : Int64) (10 : Int64) q2 w_NONE kw (0 : Int64) T287.heap n0 zs296 o287_0 o287_1 o287_2 o287_3 o287_4 o287_5 (V_w_NONE.ext f289.2) g_bx283 ne284) hZ (own_w hw (i := 74) rfl) (own_w hw (i := 2) rfl) (by decide) (by decide)) q297a q297c (g := (mkF m 39 #[uI p1, uL q2, uS, uL q3, uS, uL q4, uS, uL q5, uS, uL q6, uS, uI 3, uI ((((p1.toUInt32 >>> ((3 : Int32) &&& 31).toUInt32).toInt32) &&& (7 : Int32)) % (5 : Int32)), uR bx283, uU, uU, uU, uU, uU, uU, uU, uU, uU, uU, uU] [(.long q2), (.long 10), (.long 0), (.ref bx283)])) rfl (by rw [hml]; rfl) (Steps.refl _) (argsL := [(.long 0), (.long 10), (.long q2)]) (rest := []) (lenOf pd_334 rfl) rfl (by show 2 * 0 + _ ≤ _; exact Nat.le_of_eq rfl) (hb hby at_39) (fun _ _ => ⟨rfl, rfl, (by decide : 1 + 3 ≤ _), (by decide : 5 + 24 ≤ _)⟩)
      dsimp only [Pt.U, Pt.locs, Pt.cells, Pt.slots] at X297 l297 y297 z297 st297 hQ297
      subst y297 z297
      obtain ⟨n1_297, kn1_297, n2_297, kn2_297, n3_297, kn3_297, rfl, N297q, K297q, gq297_0, gq297_1, gq297_2, sq297_0, sq297_1, sq297_2, nq297_1_0, nq297_2_0, nq297_2_1, o297_0, o297_1, o297_2, o297_3, o297_4, o297_5, o297_6, o297_7, o297_8, o297_9, o297_10, o297_11⟩ := hQ297
      have N298 : Fr n0 L297 := by rw [l297]; exact Fr.app N288 N297q
      have ne300 : bx283 ≠ n1_297 := Nat.ne_of_lt (Nat.lt_of_lt_of_le o287_0.lt sq297_0)
      have ne302 : bx283 ≠ n2_297 := Nat.ne_of_lt (Nat.lt_of_lt_of_le o287_0.lt sq297_1)
      have ne304 : bx283 ≠ n3_297 := Nat.ne_of_lt (Nat.lt_of_lt_of_le o287_0.lt sq297_2)
      have f305 := f289.keep K297q (allS g_bx283 all0)
      have zs312 : n0 ≤ T297.heap.size := Nat.le_trans zs296 K297q.1
      -- pc 57: BatchIndex.add by rmad1
      obtain ⟨cq313, kq313, q313a, q313b, q313c⟩ := isOf hZ rfl o297_0
      obtain ⟨_, _, ⟨T313, L313, ck313, cn313⟩, -, X313, ⟨Lc313, hQ313, l313, y313, z313⟩, st313⟩ := X297.virtualBack hx (y := (⟨KC, "add", "(JJJ)V"⟩ : MethodName)) (z := (⟨KC, "add", "(JJJ)V"⟩ : MethodName)) hown (mvT hZ (own_w hw (i := 70) rfl)) (mvT hZ (own_w hw (i := 71) rfl)) (notFace_of_selects (args := #[]) (mvT hZ (own_w hw (i := 73) rfl))) (mvT hZ (own_w hw (i := 73) rfl)) (mvT hZ (own_w hw (i := 72) rfl)) (by decide) (backOf (W := 0) (rmad1 l Z a0 hw [] bx283 (100 : Int64) (20 : Int64) q3 n1_297 n2_297 n3_297 kn1_297 kn2_297 kn3_297 (0 : Int64) (0 : Int64) (0 : Int64) (0 : Int64) (0 : Int64) (0 : Int64) (0 : Int64) (0 : Int64) (0 : Int64) (10 : Int64) (0 : Int64) (0 : Int64) (0 : Int64) (0 : Int64) (0 : Int64) (0 : Int64) (0 : Int64) q2 (0 : Int64) (0 : Int64) (0 : Int64) (0 : Int64) (0 : Int64) (0 : Int64) (0 : Int64) T297.heap n0 zs312 o297_0 o297_1 o297_2 o297_3 o297_4 o297_5 o297_6 o297_8 o297_10 g_bx283 gq297_0 gq297_1 gq297_2 ne300 ne302 ne304 (Ne.symm nq297_1_0) (Ne.symm nq297_2_0) (Ne.symm nq297_2_1)) hZ (own_w hw (i := 74) rfl) (own_w hw (i := 2) rfl) (by decide) (by decide)) q313a q313c (g := (mkF m 57 #[uI p1, uL q2, uS, uL q3, uS, uL q4, uS, uL q5, uS, uL q6, uS, uI 3, uI ((((p1.toUInt32 >>> ((3 : Int32) &&& 31).toUInt32).toInt32) &&& (7 : Int32)) % (5 : Int32)), uR bx283, uU, uU, uU, uU, uU, uU, uU, uU, uU, uU, uU] [(.long q3), (.long 20), (.long 100), (.ref bx283)])) rfl (by rw [hml]; rfl) (Steps.refl _) (argsL := [(.long 100), (.long 20), (.long q3)]) (rest := []) (lenOf pd_334 rfl) rfl (by show 2 * 0 + _ ≤ _; exact Nat.le_of_eq rfl) (hb hby at_57) (fun _ _ => ⟨rfl, rfl, (by decide : 4 + 0 ≤ _), (by decide : 29 + 0 ≤ _)⟩)
      dsimp only [Pt.U, Pt.locs, Pt.cells, Pt.slots] at X313 l313 y313 z313 st313 hQ313
      subst y313 z313
      obtain ⟨rfl, N313q, K313q, o313_0, o313_1, o313_2, o313_3, o313_4, o313_5, o313_6, o313_7, o313_8⟩ := hQ313
      have N314 : Fr n0 L313 := by rw [l313]; exact Fr.app N298 N313q
      have f315 := f305.keep K313q (allS g_bx283 (allS gq297_0 (allS gq297_1 (allS gq297_2 all0))))
      have f323 := o297_7.keep K313q
      have f325 := o297_9.keep K313q
      have f327 := o297_11.keep K313q
      have zs328 : n0 ≤ T313.heap.size := Nat.le_trans zs312 K313q.1
      -- pc 76: BatchIndex.add by rmad2
      obtain ⟨cq329, kq329, q329a, q329b, q329c⟩ := isOf hZ rfl o313_0
      obtain ⟨_, _, ⟨T329, L329, ck329, cn329⟩, -, X329, ⟨Lc329, hQ329, l329, y329, z329⟩, st329⟩ := X313.virtualBack hx (y := (⟨KC, "add", "(JJJ)V"⟩ : MethodName)) (z := (⟨KC, "add", "(JJJ)V"⟩ : MethodName)) hown (mvT hZ (own_w hw (i := 70) rfl)) (mvT hZ (own_w hw (i := 71) rfl)) (notFace_of_selects (args := #[]) (mvT hZ (own_w hw (i := 73) rfl))) (mvT hZ (own_w hw (i := 73) rfl)) (mvT hZ (own_w hw (i := 72) rfl)) (by decide) (backOf (W := 0) (rmad2 l Z a0 hw [] bx283 (200 : Int64) (30 : Int64) q4 n1_297 n2_297 n3_297 kn1_297 kn2_297 kn3_297 (0 : Int64) (0 : Int64) (100 : Int64) (0 : Int64) (0 : Int64) (0 : Int64) (0 : Int64) (0 : Int64) (0 : Int64) (10 : Int64) (20 : Int64) (0 : Int64) (0 : Int64) (0 : Int64) (0 : Int64) (0 : Int64) (0 : Int64) q2 (fmj q3 q2) (0 : Int64) (0 : Int64) (0 : Int64) (0 : Int64) (0 : Int64) (0 : Int64) T313.heap n0 zs328 o313_0 o313_1 o313_2 o313_3 o313_4 o313_5 o313_6 o313_7 o313_8 g_bx283 gq297_0 gq297_1 gq297_2 ne300 ne302 ne304 (Ne.symm nq297_1_0) (Ne.symm nq297_2_0) (Ne.symm nq297_2_1)) hZ (own_w hw (i := 74) rfl) (own_w hw (i := 2) rfl) (by decide) (by decide)) q329a q329c (g := (mkF m 76 #[uI p1, uL q2, uS, uL q3, uS, uL q4, uS, uL q5, uS, uL q6, uS, uI 3, uI ((((p1.toUInt32 >>> ((3 : Int32) &&& 31).toUInt32).toInt32) &&& (7 : Int32)) % (5 : Int32)), uR bx283, uU, uU, uU, uU, uU, uU, uU, uU, uU, uU, uU] [(.long q4), (.long 30), (.long 200), (.ref bx283)])) rfl (by rw [hml]; rfl) (Steps.refl _) (argsL := [(.long 200), (.long 30), (.long q4)]) (rest := []) (lenOf pd_334 rfl) rfl (by show 2 * 0 + _ ≤ _; exact Nat.le_of_eq rfl) (hb hby at_76) (fun _ _ => ⟨rfl, rfl, (by decide : 4 + 0 ≤ _), (by decide : 29 + 0 ≤ _)⟩)
      dsimp only [Pt.U, Pt.locs, Pt.cells, Pt.slots] at X329 l329 y329 z329 st329 hQ329
      subst y329 z329
      obtain ⟨rfl, N329q, K329q, o329_0, o329_1, o329_2, o329_3, o329_4, o329_5, o329_6, o329_7, o329_8⟩ := hQ329
      have N330 : Fr n0 L329 := by rw [l329]; exact Fr.app N314 N329q
      have f331 := f315.keep K329q (allS g_bx283 (allS gq297_0 (allS gq297_1 (allS gq297_2 all0))))
      have f333 := f323.keep K329q
      have f334 := f325.keep K329q
      have f335 := f327.keep K329q
      have zs344 : n0 ≤ T329.heap.size := Nat.le_trans zs328 K329q.1
      have pre345 : ∀ t, Steps p.tables e below (T329.setTop (mkF m 98 #[uI p1, uL q2, uS, uL q3, uS, uL q4, uS, uL q5, uS, uL q6, uS, uI 3, uI ((((p1.toUInt32 >>> ((3 : Int32) &&& 31).toUInt32).toInt32) &&& (7 : Int32)) % (5 : Int32)), uR bx283, uU, uU, uU, uU, uU, uU, uU, uU, uU, uU, uU] [])) t → Steps p.tables e below (s₁.setTop (entryFrame m #[(.int p1), (.long q2), (.long q3), (.long q4), (.long q5), (.long q6)] maxLocals)) t := fun t k => pre282 t (by
        show Steps p.tables e below (s₁.setTop (mkF m 18 #[uI p1, uL q2, uS, uL q3, uS, uL q4, uS, uL q5, uS, uL q6, uS, uI 3, uI ((((p1.toUInt32 >>> ((3 : Int32) &&& 31).toUInt32).toInt32) &&& (7 : Int32)) % (5 : Int32)), uU, uU, uU, uU, uU, uU, uU, uU, uU, uU, uU, uU] [])) _
        refine st283 _ ?_
        refine XS.dup X283.here hx rfl (hb hby at_21) rfl rfl ?_
        refine st287.trans ?_
        refine XS.astore X287.here hx rfl (hb hby at_25) rfl rfl (l' := #[uI p1, uL q2, uS, uL q3, uS, uL q4, uS, uL q5, uS, uL q6, uS, uI 3, uI ((((p1.toUInt32 >>> ((3 : Int32) &&& 31).toUInt32).toInt32) &&& (7 : Int32)) % (5 : Int32)), uR bx283, uU, uU, uU, uU, uU, uU, uU, uU, uU, uU, uU]) rfl ?_
        refine XS.iload X287.here hx rfl (hb hby at_27) rfl ?_
        show Steps p.tables e below (T287.setTop (mkF m 29 #[uI p1, uL q2, uS, uL q3, uS, uL q4, uS, uL q5, uS, uL q6, uS, uI 3, uI ((((p1.toUInt32 >>> ((3 : Int32) &&& 31).toUInt32).toInt32) &&& (7 : Int32)) % (5 : Int32)), uR bx283, uU, uU, uU, uU, uU, uU, uU, uU, uU, uU, uU] [(.int 3)])) _
        refine XS.ifNo X287.here hx rfl (hb hby at_29) rfl ((if0 _ _).trans (tlt (by decide : (0 : Int32) < (3 : Int32))).2.2.2) ?_
        refine XS.aload X287.here hx rfl (hb hby at_32) rfl rfl ?_
        refine XS.lconst X287.here hx rfl (hb hby at_34) ?_
        refine X287.ldc2Long hx hown (mvT hZ (own_w hw (i := 17) rfl)) (g := (mkF m 35 #[uI p1, uL q2, uS, uL q3, uS, uL q4, uS, uL q5, uS, uL q6, uS, uI 3, uI ((((p1.toUInt32 >>> ((3 : Int32) &&& 31).toUInt32).toInt32) &&& (7 : Int32)) % (5 : Int32)), uR bx283, uU, uU, uU, uU, uU, uU, uU, uU, uU, uU, uU] [(.long 0), (.ref bx283)])) rfl (hb hby at_35) _ ?_
        refine XS.lloadN X287.here hx rfl (hb hby at_38) rfl ?_
        refine st297.trans ?_
        refine XS.iload X297.here hx rfl (hb hby at_42) rfl ?_
        refine XS.iconst X297.here hx rfl (hb hby at_44) ?_
        show Steps p.tables e below (T297.setTop (mkF m 45 #[uI p1, uL q2, uS, uL q3, uS, uL q4, uS, uL q5, uS, uL q6, uS, uI 3, uI ((((p1.toUInt32 >>> ((3 : Int32) &&& 31).toUInt32).toInt32) &&& (7 : Int32)) % (5 : Int32)), uR bx283, uU, uU, uU, uU, uU, uU, uU, uU, uU, uU, uU] [(.int 1), (.int 3)])) _
        refine XS.icmpNo X297.here hx rfl (hb hby at_45) rfl (tlt (by decide : (1 : Int32) < (3 : Int32))).2.2.2 ?_
        refine XS.aload X297.here hx rfl (hb hby at_48) rfl rfl ?_
        refine X297.ldc2Long hx hown (mvT hZ (own_w hw (i := 75) rfl)) (g := (mkF m 50 #[uI p1, uL q2, uS, uL q3, uS, uL q4, uS, uL q5, uS, uL q6, uS, uI 3, uI ((((p1.toUInt32 >>> ((3 : Int32) &&& 31).toUInt32).toInt32) &&& (7 : Int32)) % (5 : Int32)), uR bx283, uU, uU, uU, uU, uU, uU, uU, uU, uU, uU, uU] [(.ref bx283)])) rfl (hb hby at_50) _ ?_
        show Steps p.tables e below (T297.setTop (mkF m 53 #[uI p1, uL q2, uS, uL q3, uS, uL q4, uS, uL q5, uS, uL q6, uS, uI 3, uI ((((p1.toUInt32 >>> ((3 : Int32) &&& 31).toUInt32).toInt32) &&& (7 : Int32)) % (5 : Int32)), uR bx283, uU, uU, uU, uU, uU, uU, uU, uU, uU, uU, uU] [(.long 100), (.ref bx283)])) _
        refine X297.ldc2Long hx hown (mvT hZ (own_w hw (i := 76) rfl)) (g := (mkF m 53 #[uI p1, uL q2, uS, uL q3, uS, uL q4, uS, uL q5, uS, uL q6, uS, uI 3, uI ((((p1.toUInt32 >>> ((3 : Int32) &&& 31).toUInt32).toInt32) &&& (7 : Int32)) % (5 : Int32)), uR bx283, uU, uU, uU, uU, uU, uU, uU, uU, uU, uU, uU] [(.long 100), (.ref bx283)])) rfl (hb hby at_53) _ ?_
        refine XS.lloadN X297.here hx rfl (hb hby at_56) rfl ?_
        refine st313.trans ?_
        refine XS.iload X313.here hx rfl (hb hby at_60) rfl ?_
        refine XS.iconst X313.here hx rfl (hb hby at_62) ?_
        show Steps p.tables e below (T313.setTop (mkF m 63 #[uI p1, uL q2, uS, uL q3, uS, uL q4, uS, uL q5, uS, uL q6, uS, uI 3, uI ((((p1.toUInt32 >>> ((3 : Int32) &&& 31).toUInt32).toInt32) &&& (7 : Int32)) % (5 : Int32)), uR bx283, uU, uU, uU, uU, uU, uU, uU, uU, uU, uU, uU] [(.int 2), (.int 3)])) _
        refine XS.icmpNo X313.here hx rfl (hb hby at_63) rfl (tlt (by decide : (2 : Int32) < (3 : Int32))).2.2.2 ?_
        refine XS.aload X313.here hx rfl (hb hby at_66) rfl rfl ?_
        refine X313.ldc2Long hx hown (mvT hZ (own_w hw (i := 78) rfl)) (g := (mkF m 68 #[uI p1, uL q2, uS, uL q3, uS, uL q4, uS, uL q5, uS, uL q6, uS, uI 3, uI ((((p1.toUInt32 >>> ((3 : Int32) &&& 31).toUInt32).toInt32) &&& (7 : Int32)) % (5 : Int32)), uR bx283, uU, uU, uU, uU, uU, uU, uU, uU, uU, uU, uU] [(.ref bx283)])) rfl (hb hby at_68) _ ?_
        refine X313.ldc2Long hx hown (mvT hZ (own_w hw (i := 79) rfl)) (g := (mkF m 71 #[uI p1, uL q2, uS, uL q3, uS, uL q4, uS, uL q5, uS, uL q6, uS, uI 3, uI ((((p1.toUInt32 >>> ((3 : Int32) &&& 31).toUInt32).toInt32) &&& (7 : Int32)) % (5 : Int32)), uR bx283, uU, uU, uU, uU, uU, uU, uU, uU, uU, uU, uU] [(.long 200), (.ref bx283)])) rfl (hb hby at_71) _ ?_
        refine XS.lload X313.here hx rfl (hb hby at_74) rfl ?_
        refine st329.trans ?_
        refine XS.iload X329.here hx rfl (hb hby at_79) rfl ?_
        refine XS.iconst X329.here hx rfl (hb hby at_81) ?_
        show Steps p.tables e below (T329.setTop (mkF m 82 #[uI p1, uL q2, uS, uL q3, uS, uL q4, uS, uL q5, uS, uL q6, uS, uI 3, uI ((((p1.toUInt32 >>> ((3 : Int32) &&& 31).toUInt32).toInt32) &&& (7 : Int32)) % (5 : Int32)), uR bx283, uU, uU, uU, uU, uU, uU, uU, uU, uU, uU, uU] [(.int 3), (.int 3)])) _
        refine XS.icmpYes X329.here hx rfl (pc0 := 82) (pc' := 98) rfl (hb hby at_82) rfl (flt (by decide : ¬ ((3 : Int32) < (3 : Int32)))).2.2.2 (by decide) (by decide) ?_
        exact k)
      obtain ⟨dv, hdv⟩ : ∃ z, z = (((p1.toUInt32 >>> ((3 : Int32) &&& 31).toUInt32).toInt32 &&& (7 : Int32)) % (5 : Int32)) := ⟨_, rfl⟩
      have pre346 := pre345
      rw [← hdv] at pre346
      have hd := own_n5 (p1.toUInt32 >>> ((3 : Int32) &&& 31).toUInt32).toInt32
      rw [← hdv] at hd
      rcases hd with hd | hd | hd | hd
      ·  -- d = 0
        have pre347 := pre346
        rw [hd] at pre347
        -- pc 109: BatchIndex.dropBefore by rmdr30
        obtain ⟨cq348, kq348, q348a, q348b, q348c⟩ := isOf hZ rfl o329_0
        obtain ⟨_, _, ⟨T348, L348, ck348, cn348⟩, -, X348, ⟨Lc348, hQ348, l348, y348, z348⟩, st348⟩ := X329.virtualBack hx (y := (⟨KC, "dropBefore", "(J)V"⟩ : MethodName)) (z := (⟨KC, "dropBefore", "(J)V"⟩ : MethodName)) hown (mvT hZ (own_w hw (i := 18) rfl)) (mvT hZ (own_w hw (i := 19) rfl)) (notFace_of_selects (args := #[]) (mvT hZ (own_w hw (i := 21) rfl))) (mvT hZ (own_w hw (i := 21) rfl)) (mvT hZ (own_w hw (i := 20) rfl)) (by decide) (backOf (W := 0) (rmdr30 l Z a0 hw [] bx283 (1 : Int64) n1_297 n2_297 n3_297 kn1_297 kn2_297 kn3_297 (0 : Int64) (100 : Int64) (200 : Int64) (0 : Int64) (0 : Int64) (0 : Int64) (0 : Int64) (0 : Int64) q2 (fmj q3 q2) (fmj q4 (fmj q3 q2)) (0 : Int64) (0 : Int64) (0 : Int64) (0 : Int64) (0 : Int64) T329.heap n0 zs344 o329_0 o329_1 o329_2 o329_3 o329_4 o329_5 o329_6 o329_7 o329_8 f333 f334 f335 g_bx283 gq297_0 gq297_1 gq297_2 ne300 ne302 ne304 (Ne.symm nq297_1_0) (Ne.symm nq297_2_0) (Ne.symm nq297_2_1) (by decide)) hZ (own_w hw (i := 22) rfl) (own_w hw (i := 2) rfl) (by decide) (by decide)) q348a q348c (g := (mkF m 109 #[uI p1, uL q2, uS, uL q3, uS, uL q4, uS, uL q5, uS, uL q6, uS, uI 3, uI 0, uR bx283, uU, uU, uU, uU, uU, uU, uU, uU, uU, uU, uU] [(.long 1), (.ref bx283)])) rfl (by rw [hml]; rfl) (Steps.refl _) (argsL := [(.long 1)]) (rest := []) (lenOf pd_333 rfl) rfl (by show 2 * 0 + _ ≤ _; exact Nat.le_of_eq rfl) (hb hby at_109) (fun _ _ => ⟨rfl, rfl, (by decide : 4 + 3 ≤ _), (by decide : 29 + 24 ≤ _)⟩)
        dsimp only [Pt.U, Pt.locs, Pt.cells, Pt.slots] at X348 l348 y348 z348 st348 hQ348
        subst y348 z348
        obtain ⟨n1_348, kn1_348, n2_348, kn2_348, n3_348, kn3_348, rfl, N348q, K348q, gq348_0, gq348_1, gq348_2, sq348_0, sq348_1, sq348_2, nq348_1_0, nq348_2_0, nq348_2_1, o348_0, o348_1, o348_2, o348_3, o348_4⟩ := hQ348
        have N349 : Fr n0 L348 := by rw [l348]; exact Fr.app N330 N348q
        have f365 := f331.keep K348q (allS g_bx283 (allS gq297_0 (allS gq297_1 (allS gq297_2 all0))))
        have zs378 : n0 ≤ T348.heap.size := Nat.le_trans zs344 K348q.1
        have pre379 : ∀ t, Steps p.tables e below (T348.setTop (mkF m 112 #[uI p1, uL q2, uS, uL q3, uS, uL q4, uS, uL q5, uS, uL q6, uS, uI 3, uI 0, uR bx283, uU, uU, uU, uU, uU, uU, uU, uU, uU, uU, uU] [])) t → Steps p.tables e below (s₁.setTop (entryFrame m #[(.int p1), (.long q2), (.long q3), (.long q4), (.long q5), (.long q6)] maxLocals)) t := fun t k => pre347 t (by
          show Steps p.tables e below (T329.setTop (mkF m 98 #[uI p1, uL q2, uS, uL q3, uS, uL q4, uS, uL q5, uS, uL q6, uS, uI 3, uI 0, uR bx283, uU, uU, uU, uU, uU, uU, uU, uU, uU, uU, uU] [])) _
          refine XS.aload X329.here hx rfl (hb hby at_98) rfl rfl ?_
          refine X329.ldc2Long hx hown (mvT hZ (own_w hw (i := 17) rfl)) (g := (mkF m 100 #[uI p1, uL q2, uS, uL q3, uS, uL q4, uS, uL q5, uS, uL q6, uS, uI 3, uI 0, uR bx283, uU, uU, uU, uU, uU, uU, uU, uU, uU, uU, uU] [(.ref bx283)])) rfl (hb hby at_100) _ ?_
          refine XS.iload X329.here hx rfl (hb hby at_103) rfl ?_
          refine XS.i2l X329.here hx rfl (hb hby at_105) rfl ?_
          refine XS.lmul X329.here hx rfl (hb hby at_106) rfl ?_
          refine XS.lconst X329.here hx rfl (hb hby at_107) ?_
          refine XS.ladd X329.here hx rfl (hb hby at_108) rfl ?_
          refine st348.trans ?_
          exact k)
        have hR : ((3 : Int32) = (0 : Int32) ∨ (3 : Int32) = (1 : Int32) ∨ (3 : Int32) = (2 : Int32) ∨ (3 : Int32) = (3 : Int32) ∨ (3 : Int32) = (4 : Int32)) ∧ ∀ qq, own_fr (3 : Int32) (0 : Int64) q2 (fmj q3 q2) (fmj q4 (fmj q3 q2)) (0 : Int64) qq = own_ex (3 : Int32) (fmn (0 : Int32) (3 : Int32)) q2 (fmj q2 q3) (fmj (fmj q2 q3) q4) (fmj (fmj (fmj q2 q3) q4) q5) qq := by
          refine ⟨by decide, fun qq => ?_⟩
          have c1 := own_cm q3 q2
          have c2 := own_cm q4 (fmj q2 q3)
          have c3 := own_cm q5 (fmj (fmj q2 q3) q4)
          have hk : fmn (0 : Int32) (3 : Int32) = (0 : Int32) := by decide
          first | rw [c1, c2, c3, hk] | rw [c1, c2, hk] | rw [c1, hk] | rw [hk] | skip
          exact own_end_3_0 q2 (fmj q2 q3) (fmj (fmj q2 q3) q4) (fmj (fmj (fmj q2 q3) q4) q5) 0 0 0 (0 : Int64) qq (own_le _ _) (own_le _ _) (own_le _ _)
        exact kj ⟨(3 : Int32), (0 : Int32), bx283, n3_348, (3 : Int32), (0 : Int64), kn3_348, q2, (fmj q3 q2), (fmj q4 (fmj q3 q2)), (0 : Int64), (0 : Int64), (0 : Int64), (0 : Int64), (0 : Int64), T348.heap, _, T348, o348_0, o348_1, o348_2, o348_3, o348_4, hR, N349, zs378, f365, gq348_2, X348, rfl, pre379⟩
      ·  -- d = 1
        have pre380 := pre346
        rw [hd] at pre380
        -- pc 109: BatchIndex.dropBefore by rmdr31
        obtain ⟨cq381, kq381, q381a, q381b, q381c⟩ := isOf hZ rfl o329_0
        obtain ⟨_, _, ⟨T381, L381, ck381, cn381⟩, -, X381, ⟨Lc381, hQ381, l381, y381, z381⟩, st381⟩ := X329.virtualBack hx (y := (⟨KC, "dropBefore", "(J)V"⟩ : MethodName)) (z := (⟨KC, "dropBefore", "(J)V"⟩ : MethodName)) hown (mvT hZ (own_w hw (i := 18) rfl)) (mvT hZ (own_w hw (i := 19) rfl)) (notFace_of_selects (args := #[]) (mvT hZ (own_w hw (i := 21) rfl))) (mvT hZ (own_w hw (i := 21) rfl)) (mvT hZ (own_w hw (i := 20) rfl)) (by decide) (backOf (W := 0) (rmdr31 l Z a0 hw [] bx283 (11 : Int64) n1_297 n2_297 n3_297 kn1_297 kn2_297 kn3_297 (0 : Int64) (100 : Int64) (200 : Int64) (0 : Int64) (0 : Int64) (0 : Int64) (0 : Int64) (0 : Int64) q2 (fmj q3 q2) (fmj q4 (fmj q3 q2)) (0 : Int64) (0 : Int64) (0 : Int64) (0 : Int64) (0 : Int64) T329.heap n0 zs344 o329_0 o329_1 o329_2 o329_3 o329_4 o329_5 o329_6 o329_7 o329_8 f333 f334 f335 g_bx283 gq297_0 gq297_1 gq297_2 ne300 ne302 ne304 (Ne.symm nq297_1_0) (Ne.symm nq297_2_0) (Ne.symm nq297_2_1) (by decide)) hZ (own_w hw (i := 22) rfl) (own_w hw (i := 2) rfl) (by decide) (by decide)) q381a q381c (g := (mkF m 109 #[uI p1, uL q2, uS, uL q3, uS, uL q4, uS, uL q5, uS, uL q6, uS, uI 3, uI 1, uR bx283, uU, uU, uU, uU, uU, uU, uU, uU, uU, uU, uU] [(.long 11), (.ref bx283)])) rfl (by rw [hml]; rfl) (Steps.refl _) (argsL := [(.long 11)]) (rest := []) (lenOf pd_333 rfl) rfl (by show 2 * 0 + _ ≤ _; exact Nat.le_of_eq rfl) (hb hby at_109) (fun _ _ => ⟨rfl, rfl, (by decide : 4 + 3 ≤ _), (by decide : 29 + 24 ≤ _)⟩)
        dsimp only [Pt.U, Pt.locs, Pt.cells, Pt.slots] at X381 l381 y381 z381 st381 hQ381
        subst y381 z381
        obtain ⟨n1_381, kn1_381, n2_381, kn2_381, n3_381, kn3_381, rfl, N381q, K381q, gq381_0, gq381_1, gq381_2, sq381_0, sq381_1, sq381_2, nq381_1_0, nq381_2_0, nq381_2_1, o381_0, o381_1, o381_2, o381_3, o381_4⟩ := hQ381
        have N382 : Fr n0 L381 := by rw [l381]; exact Fr.app N330 N381q
        have f398 := f331.keep K381q (allS g_bx283 (allS gq297_0 (allS gq297_1 (allS gq297_2 all0))))
        have zs411 : n0 ≤ T381.heap.size := Nat.le_trans zs344 K381q.1
        have pre412 : ∀ t, Steps p.tables e below (T381.setTop (mkF m 112 #[uI p1, uL q2, uS, uL q3, uS, uL q4, uS, uL q5, uS, uL q6, uS, uI 3, uI 1, uR bx283, uU, uU, uU, uU, uU, uU, uU, uU, uU, uU, uU] [])) t → Steps p.tables e below (s₁.setTop (entryFrame m #[(.int p1), (.long q2), (.long q3), (.long q4), (.long q5), (.long q6)] maxLocals)) t := fun t k => pre380 t (by
          show Steps p.tables e below (T329.setTop (mkF m 98 #[uI p1, uL q2, uS, uL q3, uS, uL q4, uS, uL q5, uS, uL q6, uS, uI 3, uI 1, uR bx283, uU, uU, uU, uU, uU, uU, uU, uU, uU, uU, uU] [])) _
          refine XS.aload X329.here hx rfl (hb hby at_98) rfl rfl ?_
          refine X329.ldc2Long hx hown (mvT hZ (own_w hw (i := 17) rfl)) (g := (mkF m 100 #[uI p1, uL q2, uS, uL q3, uS, uL q4, uS, uL q5, uS, uL q6, uS, uI 3, uI 1, uR bx283, uU, uU, uU, uU, uU, uU, uU, uU, uU, uU, uU] [(.ref bx283)])) rfl (hb hby at_100) _ ?_
          refine XS.iload X329.here hx rfl (hb hby at_103) rfl ?_
          refine XS.i2l X329.here hx rfl (hb hby at_105) rfl ?_
          refine XS.lmul X329.here hx rfl (hb hby at_106) rfl ?_
          refine XS.lconst X329.here hx rfl (hb hby at_107) ?_
          refine XS.ladd X329.here hx rfl (hb hby at_108) rfl ?_
          refine st381.trans ?_
          exact k)
        have hR : ((2 : Int32) = (0 : Int32) ∨ (2 : Int32) = (1 : Int32) ∨ (2 : Int32) = (2 : Int32) ∨ (2 : Int32) = (3 : Int32) ∨ (2 : Int32) = (4 : Int32)) ∧ ∀ qq, own_fr (2 : Int32) (1 : Int64) (fmj q3 q2) (fmj q4 (fmj q3 q2)) (fmj q4 (fmj q3 q2)) (0 : Int64) qq = own_ex (3 : Int32) (fmn (1 : Int32) (3 : Int32)) q2 (fmj q2 q3) (fmj (fmj q2 q3) q4) (fmj (fmj (fmj q2 q3) q4) q5) qq := by
          refine ⟨by decide, fun qq => ?_⟩
          have c1 := own_cm q3 q2
          have c2 := own_cm q4 (fmj q2 q3)
          have c3 := own_cm q5 (fmj (fmj q2 q3) q4)
          have hk : fmn (1 : Int32) (3 : Int32) = (1 : Int32) := by decide
          first | rw [c1, c2, c3, hk] | rw [c1, c2, hk] | rw [c1, hk] | rw [hk] | skip
          exact own_end_3_1 q2 (fmj q2 q3) (fmj (fmj q2 q3) q4) (fmj (fmj (fmj q2 q3) q4) q5) 0 0 (fmj (fmj q2 q3) q4) (0 : Int64) qq (own_le _ _) (own_le _ _) (own_le _ _)
        exact kj ⟨(3 : Int32), (1 : Int32), bx283, n3_381, (2 : Int32), (1 : Int64), kn3_381, (fmj q3 q2), (fmj q4 (fmj q3 q2)), (fmj q4 (fmj q3 q2)), (0 : Int64), (0 : Int64), (0 : Int64), (0 : Int64), (0 : Int64), T381.heap, _, T381, o381_0, o381_1, o381_2, o381_3, o381_4, hR, N382, zs411, f398, gq381_2, X381, rfl, pre412⟩
      ·  -- d = 2
        have pre413 := pre346
        rw [hd] at pre413
        -- pc 109: BatchIndex.dropBefore by rmdr32
        obtain ⟨cq414, kq414, q414a, q414b, q414c⟩ := isOf hZ rfl o329_0
        obtain ⟨_, _, ⟨T414, L414, ck414, cn414⟩, -, X414, ⟨Lc414, hQ414, l414, y414, z414⟩, st414⟩ := X329.virtualBack hx (y := (⟨KC, "dropBefore", "(J)V"⟩ : MethodName)) (z := (⟨KC, "dropBefore", "(J)V"⟩ : MethodName)) hown (mvT hZ (own_w hw (i := 18) rfl)) (mvT hZ (own_w hw (i := 19) rfl)) (notFace_of_selects (args := #[]) (mvT hZ (own_w hw (i := 21) rfl))) (mvT hZ (own_w hw (i := 21) rfl)) (mvT hZ (own_w hw (i := 20) rfl)) (by decide) (backOf (W := 0) (rmdr32 l Z a0 hw [] bx283 (21 : Int64) n1_297 n2_297 n3_297 kn1_297 kn2_297 kn3_297 (0 : Int64) (100 : Int64) (200 : Int64) (0 : Int64) (0 : Int64) (0 : Int64) (0 : Int64) (0 : Int64) q2 (fmj q3 q2) (fmj q4 (fmj q3 q2)) (0 : Int64) (0 : Int64) (0 : Int64) (0 : Int64) (0 : Int64) T329.heap n0 zs344 o329_0 o329_1 o329_2 o329_3 o329_4 o329_5 o329_6 o329_7 o329_8 f333 f334 f335 g_bx283 gq297_0 gq297_1 gq297_2 ne300 ne302 ne304 (Ne.symm nq297_1_0) (Ne.symm nq297_2_0) (Ne.symm nq297_2_1) (by decide)) hZ (own_w hw (i := 22) rfl) (own_w hw (i := 2) rfl) (by decide) (by decide)) q414a q414c (g := (mkF m 109 #[uI p1, uL q2, uS, uL q3, uS, uL q4, uS, uL q5, uS, uL q6, uS, uI 3, uI 2, uR bx283, uU, uU, uU, uU, uU, uU, uU, uU, uU, uU, uU] [(.long 21), (.ref bx283)])) rfl (by rw [hml]; rfl) (Steps.refl _) (argsL := [(.long 21)]) (rest := []) (lenOf pd_333 rfl) rfl (by show 2 * 0 + _ ≤ _; exact Nat.le_of_eq rfl) (hb hby at_109) (fun _ _ => ⟨rfl, rfl, (by decide : 4 + 3 ≤ _), (by decide : 29 + 24 ≤ _)⟩)
        dsimp only [Pt.U, Pt.locs, Pt.cells, Pt.slots] at X414 l414 y414 z414 st414 hQ414
        subst y414 z414
        obtain ⟨n1_414, kn1_414, n2_414, kn2_414, n3_414, kn3_414, rfl, N414q, K414q, gq414_0, gq414_1, gq414_2, sq414_0, sq414_1, sq414_2, nq414_1_0, nq414_2_0, nq414_2_1, o414_0, o414_1, o414_2, o414_3, o414_4⟩ := hQ414
        have N415 : Fr n0 L414 := by rw [l414]; exact Fr.app N330 N414q
        have f431 := f331.keep K414q (allS g_bx283 (allS gq297_0 (allS gq297_1 (allS gq297_2 all0))))
        have zs444 : n0 ≤ T414.heap.size := Nat.le_trans zs344 K414q.1
        have pre445 : ∀ t, Steps p.tables e below (T414.setTop (mkF m 112 #[uI p1, uL q2, uS, uL q3, uS, uL q4, uS, uL q5, uS, uL q6, uS, uI 3, uI 2, uR bx283, uU, uU, uU, uU, uU, uU, uU, uU, uU, uU, uU] [])) t → Steps p.tables e below (s₁.setTop (entryFrame m #[(.int p1), (.long q2), (.long q3), (.long q4), (.long q5), (.long q6)] maxLocals)) t := fun t k => pre413 t (by
          show Steps p.tables e below (T329.setTop (mkF m 98 #[uI p1, uL q2, uS, uL q3, uS, uL q4, uS, uL q5, uS, uL q6, uS, uI 3, uI 2, uR bx283, uU, uU, uU, uU, uU, uU, uU, uU, uU, uU, uU] [])) _
          refine XS.aload X329.here hx rfl (hb hby at_98) rfl rfl ?_
          refine X329.ldc2Long hx hown (mvT hZ (own_w hw (i := 17) rfl)) (g := (mkF m 100 #[uI p1, uL q2, uS, uL q3, uS, uL q4, uS, uL q5, uS, uL q6, uS, uI 3, uI 2, uR bx283, uU, uU, uU, uU, uU, uU, uU, uU, uU, uU, uU] [(.ref bx283)])) rfl (hb hby at_100) _ ?_
          refine XS.iload X329.here hx rfl (hb hby at_103) rfl ?_
          refine XS.i2l X329.here hx rfl (hb hby at_105) rfl ?_
          refine XS.lmul X329.here hx rfl (hb hby at_106) rfl ?_
          refine XS.lconst X329.here hx rfl (hb hby at_107) ?_
          refine XS.ladd X329.here hx rfl (hb hby at_108) rfl ?_
          refine st414.trans ?_
          exact k)
        have hR : ((1 : Int32) = (0 : Int32) ∨ (1 : Int32) = (1 : Int32) ∨ (1 : Int32) = (2 : Int32) ∨ (1 : Int32) = (3 : Int32) ∨ (1 : Int32) = (4 : Int32)) ∧ ∀ qq, own_fr (1 : Int32) (2 : Int64) (fmj q4 (fmj q3 q2)) (fmj q3 q2) (fmj q4 (fmj q3 q2)) (0 : Int64) qq = own_ex (3 : Int32) (fmn (2 : Int32) (3 : Int32)) q2 (fmj q2 q3) (fmj (fmj q2 q3) q4) (fmj (fmj (fmj q2 q3) q4) q5) qq := by
          refine ⟨by decide, fun qq => ?_⟩
          have c1 := own_cm q3 q2
          have c2 := own_cm q4 (fmj q2 q3)
          have c3 := own_cm q5 (fmj (fmj q2 q3) q4)
          have hk : fmn (2 : Int32) (3 : Int32) = (2 : Int32) := by decide
          first | rw [c1, c2, c3, hk] | rw [c1, c2, hk] | rw [c1, hk] | rw [hk] | skip
          exact own_end_3_2 q2 (fmj q2 q3) (fmj (fmj q2 q3) q4) (fmj (fmj (fmj q2 q3) q4) q5) 0 (fmj q2 q3) (fmj (fmj q2 q3) q4) (0 : Int64) qq (own_le _ _) (own_le _ _) (own_le _ _)
        exact kj ⟨(3 : Int32), (2 : Int32), bx283, n3_414, (1 : Int32), (2 : Int64), kn3_414, (fmj q4 (fmj q3 q2)), (fmj q3 q2), (fmj q4 (fmj q3 q2)), (0 : Int64), (0 : Int64), (0 : Int64), (0 : Int64), (0 : Int64), T414.heap, _, T414, o414_0, o414_1, o414_2, o414_3, o414_4, hR, N415, zs444, f431, gq414_2, X414, rfl, pre445⟩
      ·  -- d = 3
        -- pc 109: BatchIndex.dropBefore by rmdr33
        obtain ⟨cq446, kq446, q446a, q446b, q446c⟩ := isOf hZ rfl o329_0
        obtain ⟨_, _, ⟨T446, L446, ck446, cn446⟩, -, X446, ⟨Lc446, hQ446, l446, y446, z446⟩, st446⟩ := X329.virtualBack hx (y := (⟨KC, "dropBefore", "(J)V"⟩ : MethodName)) (z := (⟨KC, "dropBefore", "(J)V"⟩ : MethodName)) hown (mvT hZ (own_w hw (i := 18) rfl)) (mvT hZ (own_w hw (i := 19) rfl)) (notFace_of_selects (args := #[]) (mvT hZ (own_w hw (i := 21) rfl))) (mvT hZ (own_w hw (i := 21) rfl)) (mvT hZ (own_w hw (i := 20) rfl)) (by decide) (backOf (W := 0) (rmdr33 l Z a0 hw [] bx283 (((10 : Int64) * (dv.toInt64)) + (1 : Int64)) n1_297 n2_297 n3_297 kn1_297 kn2_297 kn3_297 (0 : Int64) (100 : Int64) (200 : Int64) (0 : Int64) (0 : Int64) (0 : Int64) (0 : Int64) (0 : Int64) q2 (fmj q3 q2) (fmj q4 (fmj q3 q2)) (0 : Int64) (0 : Int64) (0 : Int64) (0 : Int64) (0 : Int64) T329.heap n0 zs344 o329_0 o329_1 o329_2 o329_3 o329_4 o329_5 o329_6 o329_7 o329_8 f333 f334 f335 g_bx283 gq297_0 gq297_1 gq297_2 ne300 ne302 ne304 (Ne.symm nq297_1_0) (Ne.symm nq297_2_0) (Ne.symm nq297_2_1) (by rcases hd with hd | hd <;> (rw [hd]; decide))) hZ (own_w hw (i := 22) rfl) (own_w hw (i := 2) rfl) (by decide) (by decide)) q446a q446c (g := (mkF m 109 #[uI p1, uL q2, uS, uL q3, uS, uL q4, uS, uL q5, uS, uL q6, uS, uI 3, uI dv, uR bx283, uU, uU, uU, uU, uU, uU, uU, uU, uU, uU, uU] [(.long (((10 : Int64) * (dv.toInt64)) + (1 : Int64))), (.ref bx283)])) rfl (by rw [hml]; rfl) (Steps.refl _) (argsL := [(.long (((10 : Int64) * (dv.toInt64)) + (1 : Int64)))]) (rest := []) (lenOf pd_333 rfl) rfl (by show 2 * 0 + _ ≤ _; exact Nat.le_of_eq rfl) (hb hby at_109) (fun _ _ => ⟨rfl, rfl, (by decide : 4 + 3 ≤ _), (by decide : 29 + 24 ≤ _)⟩)
        dsimp only [Pt.U, Pt.locs, Pt.cells, Pt.slots] at X446 l446 y446 z446 st446 hQ446
        subst y446 z446
        obtain ⟨n1_446, kn1_446, n2_446, kn2_446, n3_446, kn3_446, rfl, N446q, K446q, gq446_0, gq446_1, gq446_2, sq446_0, sq446_1, sq446_2, nq446_1_0, nq446_2_0, nq446_2_1, o446_0, o446_1, o446_2, o446_3, o446_4⟩ := hQ446
        have N447 : Fr n0 L446 := by rw [l446]; exact Fr.app N330 N446q
        have f463 := f331.keep K446q (allS g_bx283 (allS gq297_0 (allS gq297_1 (allS gq297_2 all0))))
        have zs476 : n0 ≤ T446.heap.size := Nat.le_trans zs344 K446q.1
        have pre477 : ∀ t, Steps p.tables e below (T446.setTop (mkF m 112 #[uI p1, uL q2, uS, uL q3, uS, uL q4, uS, uL q5, uS, uL q6, uS, uI 3, uI dv, uR bx283, uU, uU, uU, uU, uU, uU, uU, uU, uU, uU, uU] [])) t → Steps p.tables e below (s₁.setTop (entryFrame m #[(.int p1), (.long q2), (.long q3), (.long q4), (.long q5), (.long q6)] maxLocals)) t := fun t k => pre346 t (by
          show Steps p.tables e below (T329.setTop (mkF m 98 #[uI p1, uL q2, uS, uL q3, uS, uL q4, uS, uL q5, uS, uL q6, uS, uI 3, uI dv, uR bx283, uU, uU, uU, uU, uU, uU, uU, uU, uU, uU, uU] [])) _
          refine XS.aload X329.here hx rfl (hb hby at_98) rfl rfl ?_
          refine X329.ldc2Long hx hown (mvT hZ (own_w hw (i := 17) rfl)) (g := (mkF m 100 #[uI p1, uL q2, uS, uL q3, uS, uL q4, uS, uL q5, uS, uL q6, uS, uI 3, uI dv, uR bx283, uU, uU, uU, uU, uU, uU, uU, uU, uU, uU, uU] [(.ref bx283)])) rfl (hb hby at_100) _ ?_
          refine XS.iload X329.here hx rfl (hb hby at_103) rfl ?_
          refine XS.i2l X329.here hx rfl (hb hby at_105) rfl ?_
          refine XS.lmul X329.here hx rfl (hb hby at_106) rfl ?_
          refine XS.lconst X329.here hx rfl (hb hby at_107) ?_
          refine XS.ladd X329.here hx rfl (hb hby at_108) rfl ?_
          refine st446.trans ?_
          exact k)
        have hR : ((0 : Int32) = (0 : Int32) ∨ (0 : Int32) = (1 : Int32) ∨ (0 : Int32) = (2 : Int32) ∨ (0 : Int32) = (3 : Int32) ∨ (0 : Int32) = (4 : Int32)) ∧ ∀ qq, own_fr (0 : Int32) (3 : Int64) q2 (fmj q3 q2) (fmj q4 (fmj q3 q2)) (0 : Int64) qq = own_ex (3 : Int32) (fmn dv (3 : Int32)) q2 (fmj q2 q3) (fmj (fmj q2 q3) q4) (fmj (fmj (fmj q2 q3) q4) q5) qq := by
          refine ⟨by decide, fun qq => ?_⟩
          have c1 := own_cm q3 q2
          have c2 := own_cm q4 (fmj q2 q3)
          have c3 := own_cm q5 (fmj (fmj q2 q3) q4)
          have hk : fmn dv (3 : Int32) = (3 : Int32) := by rcases hd with hd | hd <;> (rw [hd]; decide)
          first | rw [c1, c2, c3, hk] | rw [c1, c2, hk] | rw [c1, hk] | rw [hk] | skip
          exact own_end_3_3 q2 (fmj q2 q3) (fmj (fmj q2 q3) q4) (fmj (fmj (fmj q2 q3) q4) q5) q2 (fmj q2 q3) (fmj (fmj q2 q3) q4) (0 : Int64) qq (own_le _ _) (own_le _ _) (own_le _ _)
        exact kj ⟨(3 : Int32), dv, bx283, n3_446, (0 : Int32), (3 : Int64), kn3_446, q2, (fmj q3 q2), (fmj q4 (fmj q3 q2)), (0 : Int64), (0 : Int64), (0 : Int64), (0 : Int64), (0 : Int64), T446.heap, _, T446, o446_0, o446_1, o446_2, o446_3, o446_4, hR, N447, zs476, f463, gq446_2, X446, rfl, pre477⟩
    ·  -- n = 4
      have pre478 := pre1
      rw [hn] at pre478
      obtain ⟨T479, h479, X479, e479, E479, A479, D479, -, st479⟩ := newO X0 hx hZ hown (own_w hw (i := 0) rfl) (own_w hw (i := 1) rfl) (own_w hw (i := 2) rfl) e0 (g := (mkF m 18 #[uI p1, uL q2, uS, uL q3, uS, uL q4, uS, uL q5, uS, uL q6, uS, uI 4, uI ((((p1.toUInt32 >>> ((3 : Int32) &&& 31).toUInt32).toInt32) &&& (7 : Int32)) % (5 : Int32)), uU, uU, uU, uU, uU, uU, uU, uU, uU, uU, uU, uU] [])) rfl (hb hby at_18) (by decide) (by decide)
      obtain ⟨bx479, g479⟩ : ∃ z, z = h0.size := ⟨_, rfl⟩
      rw [← g479] at A479 D479 st479
      have g_bx479 : n0 ≤ bx479 := Nat.le_trans Z0 (Nat.le_of_eq g479.symm)
      have ne480 : w_NONE ≠ bx479 := Nat.ne_of_lt (Nat.lt_of_lt_of_le (E_w_NONE.ext O0.2).lt (Nat.le_of_eq g479.symm))
      have f481 := O0.ext E479
      have zs482 : n0 ≤ h479.size := Nat.le_trans Z0 E479.1
      have F_baseOffsets_bx479 : Fld Z h479 bx479 KC KB "[J" .null := D479 (Or.inl (own_w hw (i := 12) rfl)) (ty := (.array .long)) (by decide)
      have F_positions_bx479 : Fld Z h479 bx479 KC KP "[J" .null := D479 (Or.inl (own_w hw (i := 14) rfl)) (ty := (.array .long)) (by decide)
      have F_maxTimestampsSoFar_bx479 : Fld Z h479 bx479 KC KM "[J" .null := D479 (Or.inl (own_w hw (i := 16) rfl)) (ty := (.array .long)) (by decide)
      have F_count_bx479 : Fld Z h479 bx479 KC "count" "I" (.int 0) := D479 (Or.inl (own_w hw (i := 28) rfl)) (ty := .int) (by decide)
      have F_first_bx479 : Fld Z h479 bx479 KC "first" "J" (.long 0) := D479 (Or.inl (own_w hw (i := 40) rfl)) (ty := .long) (by decide)
      -- pc 22: BatchIndex.<init> by rmini
      obtain ⟨_, _, ⟨T483, L483, ck483, cn483⟩, -, X483, ⟨Lc483, hQ483, l483, y483, z483⟩, st483⟩ := X479.specialBack hx (y := (⟨KC, "<init>", "()V"⟩ : MethodName)) rfl hown (mvT hZ (own_w hw (i := 3) rfl)) (mvT hZ (own_w hw (i := 4) rfl)) (mvT hZ (own_w hw (i := 5) rfl)) (by decide) (backOf (W := 1) (rmini l Z a0 hw [] bx479 w_NONE (0 : Int32) (0 : Int64) h479 n0 zs482 A479 F_baseOffsets_bx479 F_positions_bx479 F_maxTimestampsSoFar_bx479 F_count_bx479 F_first_bx479 (S_NONE.ext f481.2) g_bx479) hZ (own_w hw (i := 5) rfl) (own_w hw (i := 2) rfl) (by decide) (by decide)) (g := (mkF m 22 #[uI p1, uL q2, uS, uL q3, uS, uL q4, uS, uL q5, uS, uL q6, uS, uI 4, uI ((((p1.toUInt32 >>> ((3 : Int32) &&& 31).toUInt32).toInt32) &&& (7 : Int32)) % (5 : Int32)), uU, uU, uU, uU, uU, uU, uU, uU, uU, uU, uU, uU] [(.ref bx479), (.ref bx479)])) rfl (by rw [hml]; rfl) (Steps.refl _) (a := bx479) (argsL := []) (rest := [(.ref bx479)]) (lenOf pd_332 rfl) rfl (by show 2 * 0 + _ ≤ _; exact Nat.le_of_eq rfl) (hb hby at_22) (fun _ _ => ⟨rfl, e479, (by decide : 1 + 0 ≤ _), (by decide : 5 + 0 ≤ _)⟩)
      dsimp only [Pt.U, Pt.locs, Pt.cells, Pt.slots] at X483 l483 y483 z483 st483 hQ483
      subst y483 z483
      obtain ⟨rfl, N483q, K483q, o483_0, o483_1, o483_2, o483_3, o483_4, o483_5⟩ := hQ483
      have N484 : Fr n0 L483 := by rw [l483]; exact Fr.app N0 N483q
      have f485 := f481.keep K483q (allS g_bx479 all0)
      have zs492 : n0 ≤ T483.heap.size := Nat.le_trans zs482 K483q.1
      -- pc 39: BatchIndex.add by rmad0
      obtain ⟨cq493, kq493, q493a, q493b, q493c⟩ := isOf hZ rfl o483_0
      obtain ⟨_, _, ⟨T493, L493, ck493, cn493⟩, -, X493, ⟨Lc493, hQ493, l493, y493, z493⟩, st493⟩ := X483.virtualBack hx (y := (⟨KC, "add", "(JJJ)V"⟩ : MethodName)) (z := (⟨KC, "add", "(JJJ)V"⟩ : MethodName)) hown (mvT hZ (own_w hw (i := 70) rfl)) (mvT hZ (own_w hw (i := 71) rfl)) (notFace_of_selects (args := #[]) (mvT hZ (own_w hw (i := 73) rfl))) (mvT hZ (own_w hw (i := 73) rfl)) (mvT hZ (own_w hw (i := 72) rfl)) (by decide) (backOf (W := 0) (rmad0 l Z a0 hw [] bx479 (0 : Int64) (10 : Int64) q2 w_NONE kw (0 : Int64) T483.heap n0 zs492 o483_0 o483_1 o483_2 o483_3 o483_4 o483_5 (V_w_NONE.ext f485.2) g_bx479 ne480) hZ (own_w hw (i := 74) rfl) (own_w hw (i := 2) rfl) (by decide) (by decide)) q493a q493c (g := (mkF m 39 #[uI p1, uL q2, uS, uL q3, uS, uL q4, uS, uL q5, uS, uL q6, uS, uI 4, uI ((((p1.toUInt32 >>> ((3 : Int32) &&& 31).toUInt32).toInt32) &&& (7 : Int32)) % (5 : Int32)), uR bx479, uU, uU, uU, uU, uU, uU, uU, uU, uU, uU, uU] [(.long q2), (.long 10), (.long 0), (.ref bx479)])) rfl (by rw [hml]; rfl) (Steps.refl _) (argsL := [(.long 0), (.long 10), (.long q2)]) (rest := []) (lenOf pd_334 rfl) rfl (by show 2 * 0 + _ ≤ _; exact Nat.le_of_eq rfl) (hb hby at_39) (fun _ _ => ⟨rfl, rfl, (by decide : 1 + 3 ≤ _), (by decide : 5 + 24 ≤ _)⟩)
      dsimp only [Pt.U, Pt.locs, Pt.cells, Pt.slots] at X493 l493 y493 z493 st493 hQ493
      subst y493 z493
      obtain ⟨n1_493, kn1_493, n2_493, kn2_493, n3_493, kn3_493, rfl, N493q, K493q, gq493_0, gq493_1, gq493_2, sq493_0, sq493_1, sq493_2, nq493_1_0, nq493_2_0, nq493_2_1, o493_0, o493_1, o493_2, o493_3, o493_4, o493_5, o493_6, o493_7, o493_8, o493_9, o493_10, o493_11⟩ := hQ493
      have N494 : Fr n0 L493 := by rw [l493]; exact Fr.app N484 N493q
      have ne496 : bx479 ≠ n1_493 := Nat.ne_of_lt (Nat.lt_of_lt_of_le o483_0.lt sq493_0)
      have ne498 : bx479 ≠ n2_493 := Nat.ne_of_lt (Nat.lt_of_lt_of_le o483_0.lt sq493_1)
      have ne500 : bx479 ≠ n3_493 := Nat.ne_of_lt (Nat.lt_of_lt_of_le o483_0.lt sq493_2)
      have f501 := f485.keep K493q (allS g_bx479 all0)
      have zs508 : n0 ≤ T493.heap.size := Nat.le_trans zs492 K493q.1
      -- pc 57: BatchIndex.add by rmad1
      obtain ⟨cq509, kq509, q509a, q509b, q509c⟩ := isOf hZ rfl o493_0
      obtain ⟨_, _, ⟨T509, L509, ck509, cn509⟩, -, X509, ⟨Lc509, hQ509, l509, y509, z509⟩, st509⟩ := X493.virtualBack hx (y := (⟨KC, "add", "(JJJ)V"⟩ : MethodName)) (z := (⟨KC, "add", "(JJJ)V"⟩ : MethodName)) hown (mvT hZ (own_w hw (i := 70) rfl)) (mvT hZ (own_w hw (i := 71) rfl)) (notFace_of_selects (args := #[]) (mvT hZ (own_w hw (i := 73) rfl))) (mvT hZ (own_w hw (i := 73) rfl)) (mvT hZ (own_w hw (i := 72) rfl)) (by decide) (backOf (W := 0) (rmad1 l Z a0 hw [] bx479 (100 : Int64) (20 : Int64) q3 n1_493 n2_493 n3_493 kn1_493 kn2_493 kn3_493 (0 : Int64) (0 : Int64) (0 : Int64) (0 : Int64) (0 : Int64) (0 : Int64) (0 : Int64) (0 : Int64) (0 : Int64) (10 : Int64) (0 : Int64) (0 : Int64) (0 : Int64) (0 : Int64) (0 : Int64) (0 : Int64) (0 : Int64) q2 (0 : Int64) (0 : Int64) (0 : Int64) (0 : Int64) (0 : Int64) (0 : Int64) (0 : Int64) T493.heap n0 zs508 o493_0 o493_1 o493_2 o493_3 o493_4 o493_5 o493_6 o493_8 o493_10 g_bx479 gq493_0 gq493_1 gq493_2 ne496 ne498 ne500 (Ne.symm nq493_1_0) (Ne.symm nq493_2_0) (Ne.symm nq493_2_1)) hZ (own_w hw (i := 74) rfl) (own_w hw (i := 2) rfl) (by decide) (by decide)) q509a q509c (g := (mkF m 57 #[uI p1, uL q2, uS, uL q3, uS, uL q4, uS, uL q5, uS, uL q6, uS, uI 4, uI ((((p1.toUInt32 >>> ((3 : Int32) &&& 31).toUInt32).toInt32) &&& (7 : Int32)) % (5 : Int32)), uR bx479, uU, uU, uU, uU, uU, uU, uU, uU, uU, uU, uU] [(.long q3), (.long 20), (.long 100), (.ref bx479)])) rfl (by rw [hml]; rfl) (Steps.refl _) (argsL := [(.long 100), (.long 20), (.long q3)]) (rest := []) (lenOf pd_334 rfl) rfl (by show 2 * 0 + _ ≤ _; exact Nat.le_of_eq rfl) (hb hby at_57) (fun _ _ => ⟨rfl, rfl, (by decide : 4 + 0 ≤ _), (by decide : 29 + 0 ≤ _)⟩)
      dsimp only [Pt.U, Pt.locs, Pt.cells, Pt.slots] at X509 l509 y509 z509 st509 hQ509
      subst y509 z509
      obtain ⟨rfl, N509q, K509q, o509_0, o509_1, o509_2, o509_3, o509_4, o509_5, o509_6, o509_7, o509_8⟩ := hQ509
      have N510 : Fr n0 L509 := by rw [l509]; exact Fr.app N494 N509q
      have f511 := f501.keep K509q (allS g_bx479 (allS gq493_0 (allS gq493_1 (allS gq493_2 all0))))
      have f519 := o493_7.keep K509q
      have f521 := o493_9.keep K509q
      have f523 := o493_11.keep K509q
      have zs524 : n0 ≤ T509.heap.size := Nat.le_trans zs508 K509q.1
      -- pc 76: BatchIndex.add by rmad2
      obtain ⟨cq525, kq525, q525a, q525b, q525c⟩ := isOf hZ rfl o509_0
      obtain ⟨_, _, ⟨T525, L525, ck525, cn525⟩, -, X525, ⟨Lc525, hQ525, l525, y525, z525⟩, st525⟩ := X509.virtualBack hx (y := (⟨KC, "add", "(JJJ)V"⟩ : MethodName)) (z := (⟨KC, "add", "(JJJ)V"⟩ : MethodName)) hown (mvT hZ (own_w hw (i := 70) rfl)) (mvT hZ (own_w hw (i := 71) rfl)) (notFace_of_selects (args := #[]) (mvT hZ (own_w hw (i := 73) rfl))) (mvT hZ (own_w hw (i := 73) rfl)) (mvT hZ (own_w hw (i := 72) rfl)) (by decide) (backOf (W := 0) (rmad2 l Z a0 hw [] bx479 (200 : Int64) (30 : Int64) q4 n1_493 n2_493 n3_493 kn1_493 kn2_493 kn3_493 (0 : Int64) (0 : Int64) (100 : Int64) (0 : Int64) (0 : Int64) (0 : Int64) (0 : Int64) (0 : Int64) (0 : Int64) (10 : Int64) (20 : Int64) (0 : Int64) (0 : Int64) (0 : Int64) (0 : Int64) (0 : Int64) (0 : Int64) q2 (fmj q3 q2) (0 : Int64) (0 : Int64) (0 : Int64) (0 : Int64) (0 : Int64) (0 : Int64) T509.heap n0 zs524 o509_0 o509_1 o509_2 o509_3 o509_4 o509_5 o509_6 o509_7 o509_8 g_bx479 gq493_0 gq493_1 gq493_2 ne496 ne498 ne500 (Ne.symm nq493_1_0) (Ne.symm nq493_2_0) (Ne.symm nq493_2_1)) hZ (own_w hw (i := 74) rfl) (own_w hw (i := 2) rfl) (by decide) (by decide)) q525a q525c (g := (mkF m 76 #[uI p1, uL q2, uS, uL q3, uS, uL q4, uS, uL q5, uS, uL q6, uS, uI 4, uI ((((p1.toUInt32 >>> ((3 : Int32) &&& 31).toUInt32).toInt32) &&& (7 : Int32)) % (5 : Int32)), uR bx479, uU, uU, uU, uU, uU, uU, uU, uU, uU, uU, uU] [(.long q4), (.long 30), (.long 200), (.ref bx479)])) rfl (by rw [hml]; rfl) (Steps.refl _) (argsL := [(.long 200), (.long 30), (.long q4)]) (rest := []) (lenOf pd_334 rfl) rfl (by show 2 * 0 + _ ≤ _; exact Nat.le_of_eq rfl) (hb hby at_76) (fun _ _ => ⟨rfl, rfl, (by decide : 4 + 0 ≤ _), (by decide : 29 + 0 ≤ _)⟩)
      dsimp only [Pt.U, Pt.locs, Pt.cells, Pt.slots] at X525 l525 y525 z525 st525 hQ525
      subst y525 z525
      obtain ⟨rfl, N525q, K525q, o525_0, o525_1, o525_2, o525_3, o525_4, o525_5, o525_6, o525_7, o525_8⟩ := hQ525
      have N526 : Fr n0 L525 := by rw [l525]; exact Fr.app N510 N525q
      have f527 := f511.keep K525q (allS g_bx479 (allS gq493_0 (allS gq493_1 (allS gq493_2 all0))))
      have f529 := f519.keep K525q
      have f530 := f521.keep K525q
      have f531 := f523.keep K525q
      have zs540 : n0 ≤ T525.heap.size := Nat.le_trans zs524 K525q.1
      -- pc 95: BatchIndex.add by rmad3
      obtain ⟨cq541, kq541, q541a, q541b, q541c⟩ := isOf hZ rfl o525_0
      obtain ⟨_, _, ⟨T541, L541, ck541, cn541⟩, -, X541, ⟨Lc541, hQ541, l541, y541, z541⟩, st541⟩ := X525.virtualBack hx (y := (⟨KC, "add", "(JJJ)V"⟩ : MethodName)) (z := (⟨KC, "add", "(JJJ)V"⟩ : MethodName)) hown (mvT hZ (own_w hw (i := 70) rfl)) (mvT hZ (own_w hw (i := 71) rfl)) (notFace_of_selects (args := #[]) (mvT hZ (own_w hw (i := 73) rfl))) (mvT hZ (own_w hw (i := 73) rfl)) (mvT hZ (own_w hw (i := 72) rfl)) (by decide) (backOf (W := 0) (rmad3 l Z a0 hw [] bx479 (300 : Int64) (40 : Int64) q5 n1_493 n2_493 n3_493 kn1_493 kn2_493 kn3_493 (0 : Int64) (0 : Int64) (100 : Int64) (200 : Int64) (0 : Int64) (0 : Int64) (0 : Int64) (0 : Int64) (0 : Int64) (10 : Int64) (20 : Int64) (30 : Int64) (0 : Int64) (0 : Int64) (0 : Int64) (0 : Int64) (0 : Int64) q2 (fmj q3 q2) (fmj q4 (fmj q3 q2)) (0 : Int64) (0 : Int64) (0 : Int64) (0 : Int64) (0 : Int64) T525.heap n0 zs540 o525_0 o525_1 o525_2 o525_3 o525_4 o525_5 o525_6 o525_7 o525_8 g_bx479 gq493_0 gq493_1 gq493_2 ne496 ne498 ne500 (Ne.symm nq493_1_0) (Ne.symm nq493_2_0) (Ne.symm nq493_2_1)) hZ (own_w hw (i := 74) rfl) (own_w hw (i := 2) rfl) (by decide) (by decide)) q541a q541c (g := (mkF m 95 #[uI p1, uL q2, uS, uL q3, uS, uL q4, uS, uL q5, uS, uL q6, uS, uI 4, uI ((((p1.toUInt32 >>> ((3 : Int32) &&& 31).toUInt32).toInt32) &&& (7 : Int32)) % (5 : Int32)), uR bx479, uU, uU, uU, uU, uU, uU, uU, uU, uU, uU, uU] [(.long q5), (.long 40), (.long 300), (.ref bx479)])) rfl (by rw [hml]; rfl) (Steps.refl _) (argsL := [(.long 300), (.long 40), (.long q5)]) (rest := []) (lenOf pd_334 rfl) rfl (by show 2 * 0 + _ ≤ _; exact Nat.le_of_eq rfl) (hb hby at_95) (fun _ _ => ⟨rfl, rfl, (by decide : 4 + 0 ≤ _), (by decide : 29 + 0 ≤ _)⟩)
      dsimp only [Pt.U, Pt.locs, Pt.cells, Pt.slots] at X541 l541 y541 z541 st541 hQ541
      subst y541 z541
      obtain ⟨rfl, N541q, K541q, o541_0, o541_1, o541_2, o541_3, o541_4, o541_5, o541_6, o541_7, o541_8⟩ := hQ541
      have N542 : Fr n0 L541 := by rw [l541]; exact Fr.app N526 N541q
      have f543 := f527.keep K541q (allS g_bx479 (allS gq493_0 (allS gq493_1 (allS gq493_2 all0))))
      have f545 := f529.keep K541q
      have f546 := f530.keep K541q
      have f547 := f531.keep K541q
      have zs556 : n0 ≤ T541.heap.size := Nat.le_trans zs540 K541q.1
      have pre557 : ∀ t, Steps p.tables e below (T541.setTop (mkF m 98 #[uI p1, uL q2, uS, uL q3, uS, uL q4, uS, uL q5, uS, uL q6, uS, uI 4, uI ((((p1.toUInt32 >>> ((3 : Int32) &&& 31).toUInt32).toInt32) &&& (7 : Int32)) % (5 : Int32)), uR bx479, uU, uU, uU, uU, uU, uU, uU, uU, uU, uU, uU] [])) t → Steps p.tables e below (s₁.setTop (entryFrame m #[(.int p1), (.long q2), (.long q3), (.long q4), (.long q5), (.long q6)] maxLocals)) t := fun t k => pre478 t (by
        show Steps p.tables e below (s₁.setTop (mkF m 18 #[uI p1, uL q2, uS, uL q3, uS, uL q4, uS, uL q5, uS, uL q6, uS, uI 4, uI ((((p1.toUInt32 >>> ((3 : Int32) &&& 31).toUInt32).toInt32) &&& (7 : Int32)) % (5 : Int32)), uU, uU, uU, uU, uU, uU, uU, uU, uU, uU, uU, uU] [])) _
        refine st479 _ ?_
        refine XS.dup X479.here hx rfl (hb hby at_21) rfl rfl ?_
        refine st483.trans ?_
        refine XS.astore X483.here hx rfl (hb hby at_25) rfl rfl (l' := #[uI p1, uL q2, uS, uL q3, uS, uL q4, uS, uL q5, uS, uL q6, uS, uI 4, uI ((((p1.toUInt32 >>> ((3 : Int32) &&& 31).toUInt32).toInt32) &&& (7 : Int32)) % (5 : Int32)), uR bx479, uU, uU, uU, uU, uU, uU, uU, uU, uU, uU, uU]) rfl ?_
        refine XS.iload X483.here hx rfl (hb hby at_27) rfl ?_
        show Steps p.tables e below (T483.setTop (mkF m 29 #[uI p1, uL q2, uS, uL q3, uS, uL q4, uS, uL q5, uS, uL q6, uS, uI 4, uI ((((p1.toUInt32 >>> ((3 : Int32) &&& 31).toUInt32).toInt32) &&& (7 : Int32)) % (5 : Int32)), uR bx479, uU, uU, uU, uU, uU, uU, uU, uU, uU, uU, uU] [(.int 4)])) _
        refine XS.ifNo X483.here hx rfl (hb hby at_29) rfl ((if0 _ _).trans (tlt (by decide : (0 : Int32) < (4 : Int32))).2.2.2) ?_
        refine XS.aload X483.here hx rfl (hb hby at_32) rfl rfl ?_
        refine XS.lconst X483.here hx rfl (hb hby at_34) ?_
        refine X483.ldc2Long hx hown (mvT hZ (own_w hw (i := 17) rfl)) (g := (mkF m 35 #[uI p1, uL q2, uS, uL q3, uS, uL q4, uS, uL q5, uS, uL q6, uS, uI 4, uI ((((p1.toUInt32 >>> ((3 : Int32) &&& 31).toUInt32).toInt32) &&& (7 : Int32)) % (5 : Int32)), uR bx479, uU, uU, uU, uU, uU, uU, uU, uU, uU, uU, uU] [(.long 0), (.ref bx479)])) rfl (hb hby at_35) _ ?_
        refine XS.lloadN X483.here hx rfl (hb hby at_38) rfl ?_
        refine st493.trans ?_
        refine XS.iload X493.here hx rfl (hb hby at_42) rfl ?_
        refine XS.iconst X493.here hx rfl (hb hby at_44) ?_
        show Steps p.tables e below (T493.setTop (mkF m 45 #[uI p1, uL q2, uS, uL q3, uS, uL q4, uS, uL q5, uS, uL q6, uS, uI 4, uI ((((p1.toUInt32 >>> ((3 : Int32) &&& 31).toUInt32).toInt32) &&& (7 : Int32)) % (5 : Int32)), uR bx479, uU, uU, uU, uU, uU, uU, uU, uU, uU, uU, uU] [(.int 1), (.int 4)])) _
        refine XS.icmpNo X493.here hx rfl (hb hby at_45) rfl (tlt (by decide : (1 : Int32) < (4 : Int32))).2.2.2 ?_
        refine XS.aload X493.here hx rfl (hb hby at_48) rfl rfl ?_
        refine X493.ldc2Long hx hown (mvT hZ (own_w hw (i := 75) rfl)) (g := (mkF m 50 #[uI p1, uL q2, uS, uL q3, uS, uL q4, uS, uL q5, uS, uL q6, uS, uI 4, uI ((((p1.toUInt32 >>> ((3 : Int32) &&& 31).toUInt32).toInt32) &&& (7 : Int32)) % (5 : Int32)), uR bx479, uU, uU, uU, uU, uU, uU, uU, uU, uU, uU, uU] [(.ref bx479)])) rfl (hb hby at_50) _ ?_
        show Steps p.tables e below (T493.setTop (mkF m 53 #[uI p1, uL q2, uS, uL q3, uS, uL q4, uS, uL q5, uS, uL q6, uS, uI 4, uI ((((p1.toUInt32 >>> ((3 : Int32) &&& 31).toUInt32).toInt32) &&& (7 : Int32)) % (5 : Int32)), uR bx479, uU, uU, uU, uU, uU, uU, uU, uU, uU, uU, uU] [(.long 100), (.ref bx479)])) _
        refine X493.ldc2Long hx hown (mvT hZ (own_w hw (i := 76) rfl)) (g := (mkF m 53 #[uI p1, uL q2, uS, uL q3, uS, uL q4, uS, uL q5, uS, uL q6, uS, uI 4, uI ((((p1.toUInt32 >>> ((3 : Int32) &&& 31).toUInt32).toInt32) &&& (7 : Int32)) % (5 : Int32)), uR bx479, uU, uU, uU, uU, uU, uU, uU, uU, uU, uU, uU] [(.long 100), (.ref bx479)])) rfl (hb hby at_53) _ ?_
        refine XS.lloadN X493.here hx rfl (hb hby at_56) rfl ?_
        refine st509.trans ?_
        refine XS.iload X509.here hx rfl (hb hby at_60) rfl ?_
        refine XS.iconst X509.here hx rfl (hb hby at_62) ?_
        show Steps p.tables e below (T509.setTop (mkF m 63 #[uI p1, uL q2, uS, uL q3, uS, uL q4, uS, uL q5, uS, uL q6, uS, uI 4, uI ((((p1.toUInt32 >>> ((3 : Int32) &&& 31).toUInt32).toInt32) &&& (7 : Int32)) % (5 : Int32)), uR bx479, uU, uU, uU, uU, uU, uU, uU, uU, uU, uU, uU] [(.int 2), (.int 4)])) _
        refine XS.icmpNo X509.here hx rfl (hb hby at_63) rfl (tlt (by decide : (2 : Int32) < (4 : Int32))).2.2.2 ?_
        refine XS.aload X509.here hx rfl (hb hby at_66) rfl rfl ?_
        refine X509.ldc2Long hx hown (mvT hZ (own_w hw (i := 78) rfl)) (g := (mkF m 68 #[uI p1, uL q2, uS, uL q3, uS, uL q4, uS, uL q5, uS, uL q6, uS, uI 4, uI ((((p1.toUInt32 >>> ((3 : Int32) &&& 31).toUInt32).toInt32) &&& (7 : Int32)) % (5 : Int32)), uR bx479, uU, uU, uU, uU, uU, uU, uU, uU, uU, uU, uU] [(.ref bx479)])) rfl (hb hby at_68) _ ?_
        refine X509.ldc2Long hx hown (mvT hZ (own_w hw (i := 79) rfl)) (g := (mkF m 71 #[uI p1, uL q2, uS, uL q3, uS, uL q4, uS, uL q5, uS, uL q6, uS, uI 4, uI ((((p1.toUInt32 >>> ((3 : Int32) &&& 31).toUInt32).toInt32) &&& (7 : Int32)) % (5 : Int32)), uR bx479, uU, uU, uU, uU, uU, uU, uU, uU, uU, uU, uU] [(.long 200), (.ref bx479)])) rfl (hb hby at_71) _ ?_
        refine XS.lload X509.here hx rfl (hb hby at_74) rfl ?_
        refine st525.trans ?_
        refine XS.iload X525.here hx rfl (hb hby at_79) rfl ?_
        refine XS.iconst X525.here hx rfl (hb hby at_81) ?_
        show Steps p.tables e below (T525.setTop (mkF m 82 #[uI p1, uL q2, uS, uL q3, uS, uL q4, uS, uL q5, uS, uL q6, uS, uI 4, uI ((((p1.toUInt32 >>> ((3 : Int32) &&& 31).toUInt32).toInt32) &&& (7 : Int32)) % (5 : Int32)), uR bx479, uU, uU, uU, uU, uU, uU, uU, uU, uU, uU, uU] [(.int 3), (.int 4)])) _
        refine XS.icmpNo X525.here hx rfl (hb hby at_82) rfl (tlt (by decide : (3 : Int32) < (4 : Int32))).2.2.2 ?_
        refine XS.aload X525.here hx rfl (hb hby at_85) rfl rfl ?_
        refine X525.ldc2Long hx hown (mvT hZ (own_w hw (i := 89) rfl)) (g := (mkF m 87 #[uI p1, uL q2, uS, uL q3, uS, uL q4, uS, uL q5, uS, uL q6, uS, uI 4, uI ((((p1.toUInt32 >>> ((3 : Int32) &&& 31).toUInt32).toInt32) &&& (7 : Int32)) % (5 : Int32)), uR bx479, uU, uU, uU, uU, uU, uU, uU, uU, uU, uU, uU] [(.ref bx479)])) rfl (hb hby at_87) _ ?_
        show Steps p.tables e below (T525.setTop (mkF m 90 #[uI p1, uL q2, uS, uL q3, uS, uL q4, uS, uL q5, uS, uL q6, uS, uI 4, uI ((((p1.toUInt32 >>> ((3 : Int32) &&& 31).toUInt32).toInt32) &&& (7 : Int32)) % (5 : Int32)), uR bx479, uU, uU, uU, uU, uU, uU, uU, uU, uU, uU, uU] [(.long 300), (.ref bx479)])) _
        refine X525.ldc2Long hx hown (mvT hZ (own_w hw (i := 90) rfl)) (g := (mkF m 90 #[uI p1, uL q2, uS, uL q3, uS, uL q4, uS, uL q5, uS, uL q6, uS, uI 4, uI ((((p1.toUInt32 >>> ((3 : Int32) &&& 31).toUInt32).toInt32) &&& (7 : Int32)) % (5 : Int32)), uR bx479, uU, uU, uU, uU, uU, uU, uU, uU, uU, uU, uU] [(.long 300), (.ref bx479)])) rfl (hb hby at_90) _ ?_
        refine XS.lload X525.here hx rfl (hb hby at_93) rfl ?_
        refine st541.trans ?_
        exact k)
      obtain ⟨dv, hdv⟩ : ∃ z, z = (((p1.toUInt32 >>> ((3 : Int32) &&& 31).toUInt32).toInt32 &&& (7 : Int32)) % (5 : Int32)) := ⟨_, rfl⟩
      have pre558 := pre557
      rw [← hdv] at pre558
      have hd := own_n5 (p1.toUInt32 >>> ((3 : Int32) &&& 31).toUInt32).toInt32
      rw [← hdv] at hd
      rcases hd with hd | hd | hd | hd | hd
      ·  -- d = 0
        have pre559 := pre558
        rw [hd] at pre559
        -- pc 109: BatchIndex.dropBefore by rmdr40
        obtain ⟨cq560, kq560, q560a, q560b, q560c⟩ := isOf hZ rfl o541_0
        obtain ⟨_, _, ⟨T560, L560, ck560, cn560⟩, -, X560, ⟨Lc560, hQ560, l560, y560, z560⟩, st560⟩ := X541.virtualBack hx (y := (⟨KC, "dropBefore", "(J)V"⟩ : MethodName)) (z := (⟨KC, "dropBefore", "(J)V"⟩ : MethodName)) hown (mvT hZ (own_w hw (i := 18) rfl)) (mvT hZ (own_w hw (i := 19) rfl)) (notFace_of_selects (args := #[]) (mvT hZ (own_w hw (i := 21) rfl))) (mvT hZ (own_w hw (i := 21) rfl)) (mvT hZ (own_w hw (i := 20) rfl)) (by decide) (backOf (W := 0) (rmdr40 l Z a0 hw [] bx479 (1 : Int64) n1_493 n2_493 n3_493 kn1_493 kn2_493 kn3_493 (0 : Int64) (100 : Int64) (200 : Int64) (300 : Int64) (0 : Int64) (0 : Int64) (0 : Int64) (0 : Int64) q2 (fmj q3 q2) (fmj q4 (fmj q3 q2)) (fmj q5 (fmj q4 (fmj q3 q2))) (0 : Int64) (0 : Int64) (0 : Int64) (0 : Int64) T541.heap n0 zs556 o541_0 o541_1 o541_2 o541_3 o541_4 o541_5 o541_6 o541_7 o541_8 f545 f546 f547 g_bx479 gq493_0 gq493_1 gq493_2 ne496 ne498 ne500 (Ne.symm nq493_1_0) (Ne.symm nq493_2_0) (Ne.symm nq493_2_1) (by decide)) hZ (own_w hw (i := 22) rfl) (own_w hw (i := 2) rfl) (by decide) (by decide)) q560a q560c (g := (mkF m 109 #[uI p1, uL q2, uS, uL q3, uS, uL q4, uS, uL q5, uS, uL q6, uS, uI 4, uI 0, uR bx479, uU, uU, uU, uU, uU, uU, uU, uU, uU, uU, uU] [(.long 1), (.ref bx479)])) rfl (by rw [hml]; rfl) (Steps.refl _) (argsL := [(.long 1)]) (rest := []) (lenOf pd_333 rfl) rfl (by show 2 * 0 + _ ≤ _; exact Nat.le_of_eq rfl) (hb hby at_109) (fun _ _ => ⟨rfl, rfl, (by decide : 4 + 3 ≤ _), (by decide : 29 + 24 ≤ _)⟩)
        dsimp only [Pt.U, Pt.locs, Pt.cells, Pt.slots] at X560 l560 y560 z560 st560 hQ560
        subst y560 z560
        obtain ⟨n1_560, kn1_560, n2_560, kn2_560, n3_560, kn3_560, rfl, N560q, K560q, gq560_0, gq560_1, gq560_2, sq560_0, sq560_1, sq560_2, nq560_1_0, nq560_2_0, nq560_2_1, o560_0, o560_1, o560_2, o560_3, o560_4⟩ := hQ560
        have N561 : Fr n0 L560 := by rw [l560]; exact Fr.app N542 N560q
        have f577 := f543.keep K560q (allS g_bx479 (allS gq493_0 (allS gq493_1 (allS gq493_2 all0))))
        have zs590 : n0 ≤ T560.heap.size := Nat.le_trans zs556 K560q.1
        have pre591 : ∀ t, Steps p.tables e below (T560.setTop (mkF m 112 #[uI p1, uL q2, uS, uL q3, uS, uL q4, uS, uL q5, uS, uL q6, uS, uI 4, uI 0, uR bx479, uU, uU, uU, uU, uU, uU, uU, uU, uU, uU, uU] [])) t → Steps p.tables e below (s₁.setTop (entryFrame m #[(.int p1), (.long q2), (.long q3), (.long q4), (.long q5), (.long q6)] maxLocals)) t := fun t k => pre559 t (by
          show Steps p.tables e below (T541.setTop (mkF m 98 #[uI p1, uL q2, uS, uL q3, uS, uL q4, uS, uL q5, uS, uL q6, uS, uI 4, uI 0, uR bx479, uU, uU, uU, uU, uU, uU, uU, uU, uU, uU, uU] [])) _
          refine XS.aload X541.here hx rfl (hb hby at_98) rfl rfl ?_
          refine X541.ldc2Long hx hown (mvT hZ (own_w hw (i := 17) rfl)) (g := (mkF m 100 #[uI p1, uL q2, uS, uL q3, uS, uL q4, uS, uL q5, uS, uL q6, uS, uI 4, uI 0, uR bx479, uU, uU, uU, uU, uU, uU, uU, uU, uU, uU, uU] [(.ref bx479)])) rfl (hb hby at_100) _ ?_
          refine XS.iload X541.here hx rfl (hb hby at_103) rfl ?_
          refine XS.i2l X541.here hx rfl (hb hby at_105) rfl ?_
          refine XS.lmul X541.here hx rfl (hb hby at_106) rfl ?_
          refine XS.lconst X541.here hx rfl (hb hby at_107) ?_
          refine XS.ladd X541.here hx rfl (hb hby at_108) rfl ?_
          refine st560.trans ?_
          exact k)
        have hR : ((4 : Int32) = (0 : Int32) ∨ (4 : Int32) = (1 : Int32) ∨ (4 : Int32) = (2 : Int32) ∨ (4 : Int32) = (3 : Int32) ∨ (4 : Int32) = (4 : Int32)) ∧ ∀ qq, own_fr (4 : Int32) (0 : Int64) q2 (fmj q3 q2) (fmj q4 (fmj q3 q2)) (fmj q5 (fmj q4 (fmj q3 q2))) qq = own_ex (4 : Int32) (fmn (0 : Int32) (4 : Int32)) q2 (fmj q2 q3) (fmj (fmj q2 q3) q4) (fmj (fmj (fmj q2 q3) q4) q5) qq := by
          refine ⟨by decide, fun qq => ?_⟩
          have c1 := own_cm q3 q2
          have c2 := own_cm q4 (fmj q2 q3)
          have c3 := own_cm q5 (fmj (fmj q2 q3) q4)
          have hk : fmn (0 : Int32) (4 : Int32) = (0 : Int32) := by decide
          first | rw [c1, c2, c3, hk] | rw [c1, c2, hk] | rw [c1, hk] | rw [hk] | skip
          exact own_end_4_0 q2 (fmj q2 q3) (fmj (fmj q2 q3) q4) (fmj (fmj (fmj q2 q3) q4) q5) 0 0 0 0 qq (own_le _ _) (own_le _ _) (own_le _ _)
        exact kj ⟨(4 : Int32), (0 : Int32), bx479, n3_560, (4 : Int32), (0 : Int64), kn3_560, q2, (fmj q3 q2), (fmj q4 (fmj q3 q2)), (fmj q5 (fmj q4 (fmj q3 q2))), (0 : Int64), (0 : Int64), (0 : Int64), (0 : Int64), T560.heap, _, T560, o560_0, o560_1, o560_2, o560_3, o560_4, hR, N561, zs590, f577, gq560_2, X560, rfl, pre591⟩
      ·  -- d = 1
        have pre592 := pre558
        rw [hd] at pre592
        -- pc 109: BatchIndex.dropBefore by rmdr41
        obtain ⟨cq593, kq593, q593a, q593b, q593c⟩ := isOf hZ rfl o541_0
        obtain ⟨_, _, ⟨T593, L593, ck593, cn593⟩, -, X593, ⟨Lc593, hQ593, l593, y593, z593⟩, st593⟩ := X541.virtualBack hx (y := (⟨KC, "dropBefore", "(J)V"⟩ : MethodName)) (z := (⟨KC, "dropBefore", "(J)V"⟩ : MethodName)) hown (mvT hZ (own_w hw (i := 18) rfl)) (mvT hZ (own_w hw (i := 19) rfl)) (notFace_of_selects (args := #[]) (mvT hZ (own_w hw (i := 21) rfl))) (mvT hZ (own_w hw (i := 21) rfl)) (mvT hZ (own_w hw (i := 20) rfl)) (by decide) (backOf (W := 0) (rmdr41 l Z a0 hw [] bx479 (11 : Int64) n1_493 n2_493 n3_493 kn1_493 kn2_493 kn3_493 (0 : Int64) (100 : Int64) (200 : Int64) (300 : Int64) (0 : Int64) (0 : Int64) (0 : Int64) (0 : Int64) q2 (fmj q3 q2) (fmj q4 (fmj q3 q2)) (fmj q5 (fmj q4 (fmj q3 q2))) (0 : Int64) (0 : Int64) (0 : Int64) (0 : Int64) T541.heap n0 zs556 o541_0 o541_1 o541_2 o541_3 o541_4 o541_5 o541_6 o541_7 o541_8 f545 f546 f547 g_bx479 gq493_0 gq493_1 gq493_2 ne496 ne498 ne500 (Ne.symm nq493_1_0) (Ne.symm nq493_2_0) (Ne.symm nq493_2_1) (by decide)) hZ (own_w hw (i := 22) rfl) (own_w hw (i := 2) rfl) (by decide) (by decide)) q593a q593c (g := (mkF m 109 #[uI p1, uL q2, uS, uL q3, uS, uL q4, uS, uL q5, uS, uL q6, uS, uI 4, uI 1, uR bx479, uU, uU, uU, uU, uU, uU, uU, uU, uU, uU, uU] [(.long 11), (.ref bx479)])) rfl (by rw [hml]; rfl) (Steps.refl _) (argsL := [(.long 11)]) (rest := []) (lenOf pd_333 rfl) rfl (by show 2 * 0 + _ ≤ _; exact Nat.le_of_eq rfl) (hb hby at_109) (fun _ _ => ⟨rfl, rfl, (by decide : 4 + 3 ≤ _), (by decide : 29 + 24 ≤ _)⟩)
        dsimp only [Pt.U, Pt.locs, Pt.cells, Pt.slots] at X593 l593 y593 z593 st593 hQ593
        subst y593 z593
        obtain ⟨n1_593, kn1_593, n2_593, kn2_593, n3_593, kn3_593, rfl, N593q, K593q, gq593_0, gq593_1, gq593_2, sq593_0, sq593_1, sq593_2, nq593_1_0, nq593_2_0, nq593_2_1, o593_0, o593_1, o593_2, o593_3, o593_4⟩ := hQ593
        have N594 : Fr n0 L593 := by rw [l593]; exact Fr.app N542 N593q
        have f610 := f543.keep K593q (allS g_bx479 (allS gq493_0 (allS gq493_1 (allS gq493_2 all0))))
        have zs623 : n0 ≤ T593.heap.size := Nat.le_trans zs556 K593q.1
        have pre624 : ∀ t, Steps p.tables e below (T593.setTop (mkF m 112 #[uI p1, uL q2, uS, uL q3, uS, uL q4, uS, uL q5, uS, uL q6, uS, uI 4, uI 1, uR bx479, uU, uU, uU, uU, uU, uU, uU, uU, uU, uU, uU] [])) t → Steps p.tables e below (s₁.setTop (entryFrame m #[(.int p1), (.long q2), (.long q3), (.long q4), (.long q5), (.long q6)] maxLocals)) t := fun t k => pre592 t (by
          show Steps p.tables e below (T541.setTop (mkF m 98 #[uI p1, uL q2, uS, uL q3, uS, uL q4, uS, uL q5, uS, uL q6, uS, uI 4, uI 1, uR bx479, uU, uU, uU, uU, uU, uU, uU, uU, uU, uU, uU] [])) _
          refine XS.aload X541.here hx rfl (hb hby at_98) rfl rfl ?_
          refine X541.ldc2Long hx hown (mvT hZ (own_w hw (i := 17) rfl)) (g := (mkF m 100 #[uI p1, uL q2, uS, uL q3, uS, uL q4, uS, uL q5, uS, uL q6, uS, uI 4, uI 1, uR bx479, uU, uU, uU, uU, uU, uU, uU, uU, uU, uU, uU] [(.ref bx479)])) rfl (hb hby at_100) _ ?_
          refine XS.iload X541.here hx rfl (hb hby at_103) rfl ?_
          refine XS.i2l X541.here hx rfl (hb hby at_105) rfl ?_
          refine XS.lmul X541.here hx rfl (hb hby at_106) rfl ?_
          refine XS.lconst X541.here hx rfl (hb hby at_107) ?_
          refine XS.ladd X541.here hx rfl (hb hby at_108) rfl ?_
          refine st593.trans ?_
          exact k)
        have hR : ((3 : Int32) = (0 : Int32) ∨ (3 : Int32) = (1 : Int32) ∨ (3 : Int32) = (2 : Int32) ∨ (3 : Int32) = (3 : Int32) ∨ (3 : Int32) = (4 : Int32)) ∧ ∀ qq, own_fr (3 : Int32) (1 : Int64) (fmj q3 q2) (fmj q4 (fmj q3 q2)) (fmj q5 (fmj q4 (fmj q3 q2))) (fmj q5 (fmj q4 (fmj q3 q2))) qq = own_ex (4 : Int32) (fmn (1 : Int32) (4 : Int32)) q2 (fmj q2 q3) (fmj (fmj q2 q3) q4) (fmj (fmj (fmj q2 q3) q4) q5) qq := by
          refine ⟨by decide, fun qq => ?_⟩
          have c1 := own_cm q3 q2
          have c2 := own_cm q4 (fmj q2 q3)
          have c3 := own_cm q5 (fmj (fmj q2 q3) q4)
          have hk : fmn (1 : Int32) (4 : Int32) = (1 : Int32) := by decide
          first | rw [c1, c2, c3, hk] | rw [c1, c2, hk] | rw [c1, hk] | rw [hk] | skip
          exact own_end_4_1 q2 (fmj q2 q3) (fmj (fmj q2 q3) q4) (fmj (fmj (fmj q2 q3) q4) q5) 0 0 0 (fmj (fmj (fmj q2 q3) q4) q5) qq (own_le _ _) (own_le _ _) (own_le _ _)
        exact kj ⟨(4 : Int32), (1 : Int32), bx479, n3_593, (3 : Int32), (1 : Int64), kn3_593, (fmj q3 q2), (fmj q4 (fmj q3 q2)), (fmj q5 (fmj q4 (fmj q3 q2))), (fmj q5 (fmj q4 (fmj q3 q2))), (0 : Int64), (0 : Int64), (0 : Int64), (0 : Int64), T593.heap, _, T593, o593_0, o593_1, o593_2, o593_3, o593_4, hR, N594, zs623, f610, gq593_2, X593, rfl, pre624⟩
      ·  -- d = 2
        have pre625 := pre558
        rw [hd] at pre625
        -- pc 109: BatchIndex.dropBefore by rmdr42
        obtain ⟨cq626, kq626, q626a, q626b, q626c⟩ := isOf hZ rfl o541_0
        obtain ⟨_, _, ⟨T626, L626, ck626, cn626⟩, -, X626, ⟨Lc626, hQ626, l626, y626, z626⟩, st626⟩ := X541.virtualBack hx (y := (⟨KC, "dropBefore", "(J)V"⟩ : MethodName)) (z := (⟨KC, "dropBefore", "(J)V"⟩ : MethodName)) hown (mvT hZ (own_w hw (i := 18) rfl)) (mvT hZ (own_w hw (i := 19) rfl)) (notFace_of_selects (args := #[]) (mvT hZ (own_w hw (i := 21) rfl))) (mvT hZ (own_w hw (i := 21) rfl)) (mvT hZ (own_w hw (i := 20) rfl)) (by decide) (backOf (W := 0) (rmdr42 l Z a0 hw [] bx479 (21 : Int64) n1_493 n2_493 n3_493 kn1_493 kn2_493 kn3_493 (0 : Int64) (100 : Int64) (200 : Int64) (300 : Int64) (0 : Int64) (0 : Int64) (0 : Int64) (0 : Int64) q2 (fmj q3 q2) (fmj q4 (fmj q3 q2)) (fmj q5 (fmj q4 (fmj q3 q2))) (0 : Int64) (0 : Int64) (0 : Int64) (0 : Int64) T541.heap n0 zs556 o541_0 o541_1 o541_2 o541_3 o541_4 o541_5 o541_6 o541_7 o541_8 f545 f546 f547 g_bx479 gq493_0 gq493_1 gq493_2 ne496 ne498 ne500 (Ne.symm nq493_1_0) (Ne.symm nq493_2_0) (Ne.symm nq493_2_1) (by decide)) hZ (own_w hw (i := 22) rfl) (own_w hw (i := 2) rfl) (by decide) (by decide)) q626a q626c (g := (mkF m 109 #[uI p1, uL q2, uS, uL q3, uS, uL q4, uS, uL q5, uS, uL q6, uS, uI 4, uI 2, uR bx479, uU, uU, uU, uU, uU, uU, uU, uU, uU, uU, uU] [(.long 21), (.ref bx479)])) rfl (by rw [hml]; rfl) (Steps.refl _) (argsL := [(.long 21)]) (rest := []) (lenOf pd_333 rfl) rfl (by show 2 * 0 + _ ≤ _; exact Nat.le_of_eq rfl) (hb hby at_109) (fun _ _ => ⟨rfl, rfl, (by decide : 4 + 3 ≤ _), (by decide : 29 + 24 ≤ _)⟩)
        dsimp only [Pt.U, Pt.locs, Pt.cells, Pt.slots] at X626 l626 y626 z626 st626 hQ626
        subst y626 z626
        obtain ⟨n1_626, kn1_626, n2_626, kn2_626, n3_626, kn3_626, rfl, N626q, K626q, gq626_0, gq626_1, gq626_2, sq626_0, sq626_1, sq626_2, nq626_1_0, nq626_2_0, nq626_2_1, o626_0, o626_1, o626_2, o626_3, o626_4⟩ := hQ626
        have N627 : Fr n0 L626 := by rw [l626]; exact Fr.app N542 N626q
        have f643 := f543.keep K626q (allS g_bx479 (allS gq493_0 (allS gq493_1 (allS gq493_2 all0))))
        have zs656 : n0 ≤ T626.heap.size := Nat.le_trans zs556 K626q.1
        have pre657 : ∀ t, Steps p.tables e below (T626.setTop (mkF m 112 #[uI p1, uL q2, uS, uL q3, uS, uL q4, uS, uL q5, uS, uL q6, uS, uI 4, uI 2, uR bx479, uU, uU, uU, uU, uU, uU, uU, uU, uU, uU, uU] [])) t → Steps p.tables e below (s₁.setTop (entryFrame m #[(.int p1), (.long q2), (.long q3), (.long q4), (.long q5), (.long q6)] maxLocals)) t := fun t k => pre625 t (by
          show Steps p.tables e below (T541.setTop (mkF m 98 #[uI p1, uL q2, uS, uL q3, uS, uL q4, uS, uL q5, uS, uL q6, uS, uI 4, uI 2, uR bx479, uU, uU, uU, uU, uU, uU, uU, uU, uU, uU, uU] [])) _
          refine XS.aload X541.here hx rfl (hb hby at_98) rfl rfl ?_
          refine X541.ldc2Long hx hown (mvT hZ (own_w hw (i := 17) rfl)) (g := (mkF m 100 #[uI p1, uL q2, uS, uL q3, uS, uL q4, uS, uL q5, uS, uL q6, uS, uI 4, uI 2, uR bx479, uU, uU, uU, uU, uU, uU, uU, uU, uU, uU, uU] [(.ref bx479)])) rfl (hb hby at_100) _ ?_
          refine XS.iload X541.here hx rfl (hb hby at_103) rfl ?_
          refine XS.i2l X541.here hx rfl (hb hby at_105) rfl ?_
          refine XS.lmul X541.here hx rfl (hb hby at_106) rfl ?_
          refine XS.lconst X541.here hx rfl (hb hby at_107) ?_
          refine XS.ladd X541.here hx rfl (hb hby at_108) rfl ?_
          refine st626.trans ?_
          exact k)
        have hR : ((2 : Int32) = (0 : Int32) ∨ (2 : Int32) = (1 : Int32) ∨ (2 : Int32) = (2 : Int32) ∨ (2 : Int32) = (3 : Int32) ∨ (2 : Int32) = (4 : Int32)) ∧ ∀ qq, own_fr (2 : Int32) (2 : Int64) (fmj q4 (fmj q3 q2)) (fmj q5 (fmj q4 (fmj q3 q2))) (fmj q4 (fmj q3 q2)) (fmj q5 (fmj q4 (fmj q3 q2))) qq = own_ex (4 : Int32) (fmn (2 : Int32) (4 : Int32)) q2 (fmj q2 q3) (fmj (fmj q2 q3) q4) (fmj (fmj (fmj q2 q3) q4) q5) qq := by
          refine ⟨by decide, fun qq => ?_⟩
          have c1 := own_cm q3 q2
          have c2 := own_cm q4 (fmj q2 q3)
          have c3 := own_cm q5 (fmj (fmj q2 q3) q4)
          have hk : fmn (2 : Int32) (4 : Int32) = (2 : Int32) := by decide
          first | rw [c1, c2, c3, hk] | rw [c1, c2, hk] | rw [c1, hk] | rw [hk] | skip
          exact own_end_4_2 q2 (fmj q2 q3) (fmj (fmj q2 q3) q4) (fmj (fmj (fmj q2 q3) q4) q5) 0 0 (fmj (fmj q2 q3) q4) (fmj (fmj (fmj q2 q3) q4) q5) qq (own_le _ _) (own_le _ _) (own_le _ _)
        exact kj ⟨(4 : Int32), (2 : Int32), bx479, n3_626, (2 : Int32), (2 : Int64), kn3_626, (fmj q4 (fmj q3 q2)), (fmj q5 (fmj q4 (fmj q3 q2))), (fmj q4 (fmj q3 q2)), (fmj q5 (fmj q4 (fmj q3 q2))), (0 : Int64), (0 : Int64), (0 : Int64), (0 : Int64), T626.heap, _, T626, o626_0, o626_1, o626_2, o626_3, o626_4, hR, N627, zs656, f643, gq626_2, X626, rfl, pre657⟩
      ·  -- d = 3
        have pre658 := pre558
        rw [hd] at pre658
        -- pc 109: BatchIndex.dropBefore by rmdr43
        obtain ⟨cq659, kq659, q659a, q659b, q659c⟩ := isOf hZ rfl o541_0
        obtain ⟨_, _, ⟨T659, L659, ck659, cn659⟩, -, X659, ⟨Lc659, hQ659, l659, y659, z659⟩, st659⟩ := X541.virtualBack hx (y := (⟨KC, "dropBefore", "(J)V"⟩ : MethodName)) (z := (⟨KC, "dropBefore", "(J)V"⟩ : MethodName)) hown (mvT hZ (own_w hw (i := 18) rfl)) (mvT hZ (own_w hw (i := 19) rfl)) (notFace_of_selects (args := #[]) (mvT hZ (own_w hw (i := 21) rfl))) (mvT hZ (own_w hw (i := 21) rfl)) (mvT hZ (own_w hw (i := 20) rfl)) (by decide) (backOf (W := 0) (rmdr43 l Z a0 hw [] bx479 (31 : Int64) n1_493 n2_493 n3_493 kn1_493 kn2_493 kn3_493 (0 : Int64) (100 : Int64) (200 : Int64) (300 : Int64) (0 : Int64) (0 : Int64) (0 : Int64) (0 : Int64) q2 (fmj q3 q2) (fmj q4 (fmj q3 q2)) (fmj q5 (fmj q4 (fmj q3 q2))) (0 : Int64) (0 : Int64) (0 : Int64) (0 : Int64) T541.heap n0 zs556 o541_0 o541_1 o541_2 o541_3 o541_4 o541_5 o541_6 o541_7 o541_8 f545 f546 f547 g_bx479 gq493_0 gq493_1 gq493_2 ne496 ne498 ne500 (Ne.symm nq493_1_0) (Ne.symm nq493_2_0) (Ne.symm nq493_2_1) (by decide)) hZ (own_w hw (i := 22) rfl) (own_w hw (i := 2) rfl) (by decide) (by decide)) q659a q659c (g := (mkF m 109 #[uI p1, uL q2, uS, uL q3, uS, uL q4, uS, uL q5, uS, uL q6, uS, uI 4, uI 3, uR bx479, uU, uU, uU, uU, uU, uU, uU, uU, uU, uU, uU] [(.long 31), (.ref bx479)])) rfl (by rw [hml]; rfl) (Steps.refl _) (argsL := [(.long 31)]) (rest := []) (lenOf pd_333 rfl) rfl (by show 2 * 0 + _ ≤ _; exact Nat.le_of_eq rfl) (hb hby at_109) (fun _ _ => ⟨rfl, rfl, (by decide : 4 + 3 ≤ _), (by decide : 29 + 24 ≤ _)⟩)
        dsimp only [Pt.U, Pt.locs, Pt.cells, Pt.slots] at X659 l659 y659 z659 st659 hQ659
        subst y659 z659
        obtain ⟨n1_659, kn1_659, n2_659, kn2_659, n3_659, kn3_659, rfl, N659q, K659q, gq659_0, gq659_1, gq659_2, sq659_0, sq659_1, sq659_2, nq659_1_0, nq659_2_0, nq659_2_1, o659_0, o659_1, o659_2, o659_3, o659_4⟩ := hQ659
        have N660 : Fr n0 L659 := by rw [l659]; exact Fr.app N542 N659q
        have f676 := f543.keep K659q (allS g_bx479 (allS gq493_0 (allS gq493_1 (allS gq493_2 all0))))
        have zs689 : n0 ≤ T659.heap.size := Nat.le_trans zs556 K659q.1
        have pre690 : ∀ t, Steps p.tables e below (T659.setTop (mkF m 112 #[uI p1, uL q2, uS, uL q3, uS, uL q4, uS, uL q5, uS, uL q6, uS, uI 4, uI 3, uR bx479, uU, uU, uU, uU, uU, uU, uU, uU, uU, uU, uU] [])) t → Steps p.tables e below (s₁.setTop (entryFrame m #[(.int p1), (.long q2), (.long q3), (.long q4), (.long q5), (.long q6)] maxLocals)) t := fun t k => pre658 t (by
          show Steps p.tables e below (T541.setTop (mkF m 98 #[uI p1, uL q2, uS, uL q3, uS, uL q4, uS, uL q5, uS, uL q6, uS, uI 4, uI 3, uR bx479, uU, uU, uU, uU, uU, uU, uU, uU, uU, uU, uU] [])) _
          refine XS.aload X541.here hx rfl (hb hby at_98) rfl rfl ?_
          refine X541.ldc2Long hx hown (mvT hZ (own_w hw (i := 17) rfl)) (g := (mkF m 100 #[uI p1, uL q2, uS, uL q3, uS, uL q4, uS, uL q5, uS, uL q6, uS, uI 4, uI 3, uR bx479, uU, uU, uU, uU, uU, uU, uU, uU, uU, uU, uU] [(.ref bx479)])) rfl (hb hby at_100) _ ?_
          refine XS.iload X541.here hx rfl (hb hby at_103) rfl ?_
          refine XS.i2l X541.here hx rfl (hb hby at_105) rfl ?_
          refine XS.lmul X541.here hx rfl (hb hby at_106) rfl ?_
          refine XS.lconst X541.here hx rfl (hb hby at_107) ?_
          refine XS.ladd X541.here hx rfl (hb hby at_108) rfl ?_
          refine st659.trans ?_
          exact k)
        have hR : ((1 : Int32) = (0 : Int32) ∨ (1 : Int32) = (1 : Int32) ∨ (1 : Int32) = (2 : Int32) ∨ (1 : Int32) = (3 : Int32) ∨ (1 : Int32) = (4 : Int32)) ∧ ∀ qq, own_fr (1 : Int32) (3 : Int64) (fmj q5 (fmj q4 (fmj q3 q2))) (fmj q3 q2) (fmj q4 (fmj q3 q2)) (fmj q5 (fmj q4 (fmj q3 q2))) qq = own_ex (4 : Int32) (fmn (3 : Int32) (4 : Int32)) q2 (fmj q2 q3) (fmj (fmj q2 q3) q4) (fmj (fmj (fmj q2 q3) q4) q5) qq := by
          refine ⟨by decide, fun qq => ?_⟩
          have c1 := own_cm q3 q2
          have c2 := own_cm q4 (fmj q2 q3)
          have c3 := own_cm q5 (fmj (fmj q2 q3) q4)
          have hk : fmn (3 : Int32) (4 : Int32) = (3 : Int32) := by decide
          first | rw [c1, c2, c3, hk] | rw [c1, c2, hk] | rw [c1, hk] | rw [hk] | skip
          exact own_end_4_3 q2 (fmj q2 q3) (fmj (fmj q2 q3) q4) (fmj (fmj (fmj q2 q3) q4) q5) 0 (fmj q2 q3) (fmj (fmj q2 q3) q4) (fmj (fmj (fmj q2 q3) q4) q5) qq (own_le _ _) (own_le _ _) (own_le _ _)
        exact kj ⟨(4 : Int32), (3 : Int32), bx479, n3_659, (1 : Int32), (3 : Int64), kn3_659, (fmj q5 (fmj q4 (fmj q3 q2))), (fmj q3 q2), (fmj q4 (fmj q3 q2)), (fmj q5 (fmj q4 (fmj q3 q2))), (0 : Int64), (0 : Int64), (0 : Int64), (0 : Int64), T659.heap, _, T659, o659_0, o659_1, o659_2, o659_3, o659_4, hR, N660, zs689, f676, gq659_2, X659, rfl, pre690⟩
      ·  -- d = 4
        -- pc 109: BatchIndex.dropBefore by rmdr44
        obtain ⟨cq691, kq691, q691a, q691b, q691c⟩ := isOf hZ rfl o541_0
        obtain ⟨_, _, ⟨T691, L691, ck691, cn691⟩, -, X691, ⟨Lc691, hQ691, l691, y691, z691⟩, st691⟩ := X541.virtualBack hx (y := (⟨KC, "dropBefore", "(J)V"⟩ : MethodName)) (z := (⟨KC, "dropBefore", "(J)V"⟩ : MethodName)) hown (mvT hZ (own_w hw (i := 18) rfl)) (mvT hZ (own_w hw (i := 19) rfl)) (notFace_of_selects (args := #[]) (mvT hZ (own_w hw (i := 21) rfl))) (mvT hZ (own_w hw (i := 21) rfl)) (mvT hZ (own_w hw (i := 20) rfl)) (by decide) (backOf (W := 0) (rmdr44 l Z a0 hw [] bx479 (((10 : Int64) * (dv.toInt64)) + (1 : Int64)) n1_493 n2_493 n3_493 kn1_493 kn2_493 kn3_493 (0 : Int64) (100 : Int64) (200 : Int64) (300 : Int64) (0 : Int64) (0 : Int64) (0 : Int64) (0 : Int64) q2 (fmj q3 q2) (fmj q4 (fmj q3 q2)) (fmj q5 (fmj q4 (fmj q3 q2))) (0 : Int64) (0 : Int64) (0 : Int64) (0 : Int64) T541.heap n0 zs556 o541_0 o541_1 o541_2 o541_3 o541_4 o541_5 o541_6 o541_7 o541_8 f545 f546 f547 g_bx479 gq493_0 gq493_1 gq493_2 ne496 ne498 ne500 (Ne.symm nq493_1_0) (Ne.symm nq493_2_0) (Ne.symm nq493_2_1) (by rw [hd]; decide)) hZ (own_w hw (i := 22) rfl) (own_w hw (i := 2) rfl) (by decide) (by decide)) q691a q691c (g := (mkF m 109 #[uI p1, uL q2, uS, uL q3, uS, uL q4, uS, uL q5, uS, uL q6, uS, uI 4, uI dv, uR bx479, uU, uU, uU, uU, uU, uU, uU, uU, uU, uU, uU] [(.long (((10 : Int64) * (dv.toInt64)) + (1 : Int64))), (.ref bx479)])) rfl (by rw [hml]; rfl) (Steps.refl _) (argsL := [(.long (((10 : Int64) * (dv.toInt64)) + (1 : Int64)))]) (rest := []) (lenOf pd_333 rfl) rfl (by show 2 * 0 + _ ≤ _; exact Nat.le_of_eq rfl) (hb hby at_109) (fun _ _ => ⟨rfl, rfl, (by decide : 4 + 3 ≤ _), (by decide : 29 + 24 ≤ _)⟩)
        dsimp only [Pt.U, Pt.locs, Pt.cells, Pt.slots] at X691 l691 y691 z691 st691 hQ691
        subst y691 z691
        obtain ⟨n1_691, kn1_691, n2_691, kn2_691, n3_691, kn3_691, rfl, N691q, K691q, gq691_0, gq691_1, gq691_2, sq691_0, sq691_1, sq691_2, nq691_1_0, nq691_2_0, nq691_2_1, o691_0, o691_1, o691_2, o691_3, o691_4⟩ := hQ691
        have N692 : Fr n0 L691 := by rw [l691]; exact Fr.app N542 N691q
        have f708 := f543.keep K691q (allS g_bx479 (allS gq493_0 (allS gq493_1 (allS gq493_2 all0))))
        have zs721 : n0 ≤ T691.heap.size := Nat.le_trans zs556 K691q.1
        have pre722 : ∀ t, Steps p.tables e below (T691.setTop (mkF m 112 #[uI p1, uL q2, uS, uL q3, uS, uL q4, uS, uL q5, uS, uL q6, uS, uI 4, uI dv, uR bx479, uU, uU, uU, uU, uU, uU, uU, uU, uU, uU, uU] [])) t → Steps p.tables e below (s₁.setTop (entryFrame m #[(.int p1), (.long q2), (.long q3), (.long q4), (.long q5), (.long q6)] maxLocals)) t := fun t k => pre558 t (by
          show Steps p.tables e below (T541.setTop (mkF m 98 #[uI p1, uL q2, uS, uL q3, uS, uL q4, uS, uL q5, uS, uL q6, uS, uI 4, uI dv, uR bx479, uU, uU, uU, uU, uU, uU, uU, uU, uU, uU, uU] [])) _
          refine XS.aload X541.here hx rfl (hb hby at_98) rfl rfl ?_
          refine X541.ldc2Long hx hown (mvT hZ (own_w hw (i := 17) rfl)) (g := (mkF m 100 #[uI p1, uL q2, uS, uL q3, uS, uL q4, uS, uL q5, uS, uL q6, uS, uI 4, uI dv, uR bx479, uU, uU, uU, uU, uU, uU, uU, uU, uU, uU, uU] [(.ref bx479)])) rfl (hb hby at_100) _ ?_
          refine XS.iload X541.here hx rfl (hb hby at_103) rfl ?_
          refine XS.i2l X541.here hx rfl (hb hby at_105) rfl ?_
          refine XS.lmul X541.here hx rfl (hb hby at_106) rfl ?_
          refine XS.lconst X541.here hx rfl (hb hby at_107) ?_
          refine XS.ladd X541.here hx rfl (hb hby at_108) rfl ?_
          refine st691.trans ?_
          exact k)
        have hR : ((0 : Int32) = (0 : Int32) ∨ (0 : Int32) = (1 : Int32) ∨ (0 : Int32) = (2 : Int32) ∨ (0 : Int32) = (3 : Int32) ∨ (0 : Int32) = (4 : Int32)) ∧ ∀ qq, own_fr (0 : Int32) (4 : Int64) q2 (fmj q3 q2) (fmj q4 (fmj q3 q2)) (fmj q5 (fmj q4 (fmj q3 q2))) qq = own_ex (4 : Int32) (fmn dv (4 : Int32)) q2 (fmj q2 q3) (fmj (fmj q2 q3) q4) (fmj (fmj (fmj q2 q3) q4) q5) qq := by
          refine ⟨by decide, fun qq => ?_⟩
          have c1 := own_cm q3 q2
          have c2 := own_cm q4 (fmj q2 q3)
          have c3 := own_cm q5 (fmj (fmj q2 q3) q4)
          have hk : fmn dv (4 : Int32) = (4 : Int32) := by rw [hd]; decide
          first | rw [c1, c2, c3, hk] | rw [c1, c2, hk] | rw [c1, hk] | rw [hk] | skip
          exact own_end_4_4 q2 (fmj q2 q3) (fmj (fmj q2 q3) q4) (fmj (fmj (fmj q2 q3) q4) q5) q2 (fmj q2 q3) (fmj (fmj q2 q3) q4) (fmj (fmj (fmj q2 q3) q4) q5) qq (own_le _ _) (own_le _ _) (own_le _ _)
        exact kj ⟨(4 : Int32), dv, bx479, n3_691, (0 : Int32), (4 : Int64), kn3_691, q2, (fmj q3 q2), (fmj q4 (fmj q3 q2)), (fmj q5 (fmj q4 (fmj q3 q2))), (0 : Int64), (0 : Int64), (0 : Int64), (0 : Int64), T691.heap, _, T691, o691_0, o691_1, o691_2, o691_3, o691_4, hR, N692, zs721, f708, gq691_2, X691, rfl, pre722⟩
  ·  -- from the meeting at pc 112
    rintro ⟨nn, dd, ix, ar, cnt, fz, kar, x0, x1, x2, x3, x4, x5, x6, x7, hj2, lcj2, Tj2, fjj2_0, fjj2_1, fjj2_2, fjj2_3, fjj2_4, hR, Nj2, zsj2, Oj2, g_ar, Xj2, ej2, prej2⟩
    -- pc 116: Math.min by rmmn
    obtain ⟨_, _, ⟨T723, L723, ck723, cn723⟩, -, X723, ⟨Lc723, hQ723, l723, y723, z723⟩, st723⟩ := Jvm.LawKit.callS Xj2 hx (y := (⟨"java/lang/Math", "min", "(II)I"⟩ : MethodName)) hown (mvT hZ (own_w hw (i := 61) rfl)) (mvT hZ (own_w hw (i := 58) rfl)) (mvT hZ (own_w hw (i := 47) rfl)) (mvT hZ (own_w hw (i := 59) rfl)) (by decide) (backOf (W := 0) (rmmn l Z a0 hw [] dd nn hj2 n0 zsj2 ) hZ (own_w hw (i := 59) rfl) (own_w hw (i := 47) rfl) (by decide) (by decide)) (g := (mkF m 116 #[uI p1, uL q2, uS, uL q3, uS, uL q4, uS, uL q5, uS, uL q6, uS, uI nn, uI dd, uR ix, uU, uU, uU, uU, uU, uU, uU, uU, uU, uU, uU] [(.int nn), (.int dd)])) rfl (by rw [hml]; rfl) (argsL := [(.int dd), (.int nn)]) (rest := []) (lenOf pd_47 rfl) rfl (by show 2 * 0 + _ ≤ _; exact Nat.le_of_eq rfl) (hb hby at_116) (fun _ _ => ⟨rfl, ej2, (by decide : 7 + 0 ≤ _), (by decide : 53 + 0 ≤ _)⟩)
    dsimp only [Pt.U, Pt.locs, Pt.cells, Pt.slots] at X723 l723 y723 z723 st723 hQ723
    subst y723 z723
    obtain ⟨rfl, N723q, e723⟩ := hQ723
    have N724 : Fr n0 L723 := by rw [l723]; exact Fr.app Nj2 N723q
    -- pc 127: Math.max by rmmj
    obtain ⟨_, _, ⟨T725, L725, ck725, cn725⟩, -, X725, ⟨Lc725, hQ725, l725, y725, z725⟩, st725⟩ := Jvm.LawKit.callS X723 hx (y := (⟨"java/lang/Math", "max", "(JJ)J"⟩ : MethodName)) hown (mvT hZ (own_w hw (i := 62) rfl)) (mvT hZ (own_w hw (i := 63) rfl)) (mvT hZ (own_w hw (i := 47) rfl)) (mvT hZ (own_w hw (i := 64) rfl)) (by decide) (backOf (W := 0) (rmmj l Z a0 hw [] q2 q3 hj2 n0 zsj2 ) hZ (own_w hw (i := 64) rfl) (own_w hw (i := 47) rfl) (by decide) (by decide)) (g := (mkF m 127 #[uI p1, uL q2, uS, uL q3, uS, uL q4, uS, uL q5, uS, uL q6, uS, uI nn, uI dd, uR ix, uI (fmn dd nn), uL q2, uS, uU, uU, uU, uU, uU, uU, uU, uU] [(.long q3), (.long q2)])) rfl (by rw [hml]; rfl) (argsL := [(.long q2), (.long q3)]) (rest := []) (lenOf pd_157 rfl) rfl (by show 2 * 0 + _ ≤ _; exact Nat.le_of_eq rfl) (hb hby at_127) (fun _ _ => ⟨rfl, e723, (by decide : 7 + 0 ≤ _), (by decide : 53 + 0 ≤ _)⟩)
    dsimp only [Pt.U, Pt.locs, Pt.cells, Pt.slots] at X725 l725 y725 z725 st725 hQ725
    subst y725 z725
    obtain ⟨rfl, N725q, e725⟩ := hQ725
    have N726 : Fr n0 L725 := by rw [l725]; exact Fr.app N724 N725q
    -- pc 136: Math.max by rmmj
    obtain ⟨_, _, ⟨T727, L727, ck727, cn727⟩, -, X727, ⟨Lc727, hQ727, l727, y727, z727⟩, st727⟩ := Jvm.LawKit.callS X725 hx (y := (⟨"java/lang/Math", "max", "(JJ)J"⟩ : MethodName)) hown (mvT hZ (own_w hw (i := 62) rfl)) (mvT hZ (own_w hw (i := 63) rfl)) (mvT hZ (own_w hw (i := 47) rfl)) (mvT hZ (own_w hw (i := 64) rfl)) (by decide) (backOf (W := 0) (rmmj l Z a0 hw [] (fmj q2 q3) q4 hj2 n0 zsj2 ) hZ (own_w hw (i := 64) rfl) (own_w hw (i := 47) rfl) (by decide) (by decide)) (g := (mkF m 136 #[uI p1, uL q2, uS, uL q3, uS, uL q4, uS, uL q5, uS, uL q6, uS, uI nn, uI dd, uR ix, uI (fmn dd nn), uL q2, uS, uL (fmj q2 q3), uS, uU, uU, uU, uU, uU, uU] [(.long q4), (.long (fmj q2 q3))])) rfl (by rw [hml]; rfl) (argsL := [(.long (fmj q2 q3)), (.long q4)]) (rest := []) (lenOf pd_157 rfl) rfl (by show 2 * 0 + _ ≤ _; exact Nat.le_of_eq rfl) (hb hby at_136) (fun _ _ => ⟨rfl, e725, (by decide : 7 + 0 ≤ _), (by decide : 53 + 0 ≤ _)⟩)
    dsimp only [Pt.U, Pt.locs, Pt.cells, Pt.slots] at X727 l727 y727 z727 st727 hQ727
    subst y727 z727
    obtain ⟨rfl, N727q, e727⟩ := hQ727
    have N728 : Fr n0 L727 := by rw [l727]; exact Fr.app N726 N727q
    -- pc 145: Math.max by rmmj
    obtain ⟨_, _, ⟨T729, L729, ck729, cn729⟩, -, X729, ⟨Lc729, hQ729, l729, y729, z729⟩, st729⟩ := Jvm.LawKit.callS X727 hx (y := (⟨"java/lang/Math", "max", "(JJ)J"⟩ : MethodName)) hown (mvT hZ (own_w hw (i := 62) rfl)) (mvT hZ (own_w hw (i := 63) rfl)) (mvT hZ (own_w hw (i := 47) rfl)) (mvT hZ (own_w hw (i := 64) rfl)) (by decide) (backOf (W := 0) (rmmj l Z a0 hw [] (fmj (fmj q2 q3) q4) q5 hj2 n0 zsj2 ) hZ (own_w hw (i := 64) rfl) (own_w hw (i := 47) rfl) (by decide) (by decide)) (g := (mkF m 145 #[uI p1, uL q2, uS, uL q3, uS, uL q4, uS, uL q5, uS, uL q6, uS, uI nn, uI dd, uR ix, uI (fmn dd nn), uL q2, uS, uL (fmj q2 q3), uS, uL (fmj (fmj q2 q3) q4), uS, uU, uU, uU, uU] [(.long q5), (.long (fmj (fmj q2 q3) q4))])) rfl (by rw [hml]; rfl) (argsL := [(.long (fmj (fmj q2 q3) q4)), (.long q5)]) (rest := []) (lenOf pd_157 rfl) rfl (by show 2 * 0 + _ ≤ _; exact Nat.le_of_eq rfl) (hb hby at_145) (fun _ _ => ⟨rfl, e727, (by decide : 7 + 0 ≤ _), (by decide : 53 + 0 ≤ _)⟩)
    dsimp only [Pt.U, Pt.locs, Pt.cells, Pt.slots] at X729 l729 y729 z729 st729 hQ729
    subst y729 z729
    obtain ⟨rfl, N729q, e729⟩ := hQ729
    have N730 : Fr n0 L729 := by rw [l729]; exact Fr.app N728 N729q
    have pre731 : ∀ t, Steps p.tables e below (T729.setTop (mkF m 158 #[uI p1, uL q2, uS, uL q3, uS, uL q4, uS, uL q5, uS, uL q6, uS, uI nn, uI dd, uR ix, uI (fmn dd nn), uL q2, uS, uL (fmj q2 q3), uS, uL (fmj (fmj q2 q3) q4), uS, uL (fmj (fmj (fmj q2 q3) q4) q5), uS, uL (nn.toInt64), uS] [(.int 3), (.int nn)])) t → Steps p.tables e below (s₁.setTop (entryFrame m #[(.int p1), (.long q2), (.long q3), (.long q4), (.long q5), (.long q6)] maxLocals)) t := fun t k => prej2 t (by
      show Steps p.tables e below (Tj2.setTop (mkF m 112 #[uI p1, uL q2, uS, uL q3, uS, uL q4, uS, uL q5, uS, uL q6, uS, uI nn, uI dd, uR ix, uU, uU, uU, uU, uU, uU, uU, uU, uU, uU, uU] [])) _
      refine XS.iload Xj2.here hx rfl (hb hby at_112) rfl ?_
      refine XS.iload Xj2.here hx rfl (hb hby at_114) rfl ?_
      refine st723 _ ?_
      refine XS.istore X723.here hx rfl (hb hby at_119) rfl (l' := #[uI p1, uL q2, uS, uL q3, uS, uL q4, uS, uL q5, uS, uL q6, uS, uI nn, uI dd, uR ix, uI (fmn dd nn), uU, uU, uU, uU, uU, uU, uU, uU, uU, uU]) rfl ?_
      refine XS.lloadN X723.here hx rfl (hb hby at_121) rfl ?_
      refine XS.lstore X723.here hx rfl (hb hby at_122) rfl (l' := #[uI p1, uL q2, uS, uL q3, uS, uL q4, uS, uL q5, uS, uL q6, uS, uI nn, uI dd, uR ix, uI (fmn dd nn), uL q2, uS, uU, uU, uU, uU, uU, uU, uU, uU]) rfl ?_
      refine XS.lload X723.here hx rfl (hb hby at_124) rfl ?_
      refine XS.lloadN X723.here hx rfl (hb hby at_126) rfl ?_
      refine st725 _ ?_
      refine XS.lstore X725.here hx rfl (hb hby at_130) rfl (l' := #[uI p1, uL q2, uS, uL q3, uS, uL q4, uS, uL q5, uS, uL q6, uS, uI nn, uI dd, uR ix, uI (fmn dd nn), uL q2, uS, uL (fmj q2 q3), uS, uU, uU, uU, uU, uU, uU]) rfl ?_
      refine XS.lload X725.here hx rfl (hb hby at_132) rfl ?_
      refine XS.lload X725.here hx rfl (hb hby at_134) rfl ?_
      refine st727 _ ?_
      refine XS.lstore X727.here hx rfl (hb hby at_139) rfl (l' := #[uI p1, uL q2, uS, uL q3, uS, uL q4, uS, uL q5, uS, uL q6, uS, uI nn, uI dd, uR ix, uI (fmn dd nn), uL q2, uS, uL (fmj q2 q3), uS, uL (fmj (fmj q2 q3) q4), uS, uU, uU, uU, uU]) rfl ?_
      refine XS.lload X727.here hx rfl (hb hby at_141) rfl ?_
      refine XS.lload X727.here hx rfl (hb hby at_143) rfl ?_
      show Steps p.tables e below (T727.setTop (mkF m 145 #[uI p1, uL q2, uS, uL q3, uS, uL q4, uS, uL q5, uS, uL q6, uS, uI nn, uI dd, uR ix, uI (fmn dd nn), uL q2, uS, uL (fmj q2 q3), uS, uL (fmj (fmj q2 q3) q4), uS, uU, uU, uU, uU] [(.long q5), (.long (fmj (fmj q2 q3) q4))])) _
      refine st729 _ ?_
      refine XS.lstore X729.here hx rfl (hb hby at_148) rfl (l' := #[uI p1, uL q2, uS, uL q3, uS, uL q4, uS, uL q5, uS, uL q6, uS, uI nn, uI dd, uR ix, uI (fmn dd nn), uL q2, uS, uL (fmj q2 q3), uS, uL (fmj (fmj q2 q3) q4), uS, uL (fmj (fmj (fmj q2 q3) q4) q5), uS, uU, uU]) rfl ?_
      refine XS.iload X729.here hx rfl (hb hby at_150) rfl ?_
      refine XS.i2l X729.here hx rfl (hb hby at_152) rfl ?_
      refine XS.lstore X729.here hx rfl (hb hby at_153) rfl (l' := #[uI p1, uL q2, uS, uL q3, uS, uL q4, uS, uL q5, uS, uL q6, uS, uI nn, uI dd, uR ix, uI (fmn dd nn), uL q2, uS, uL (fmj q2 q3), uS, uL (fmj (fmj q2 q3) q4), uS, uL (fmj (fmj (fmj q2 q3) q4) q5), uS, uL (nn.toInt64), uS]) rfl ?_
      refine XS.iload X729.here hx rfl (hb hby at_155) rfl ?_
      refine XS.iconst X729.here hx rfl (hb hby at_157) ?_
      exact k)
    refine cps (A := ∃ (ex3 : Int64) (lcj732 : List Loc) (Tj732 : State), (ex3 = own_p (3 : Int32) nn (fmn dd nn) (fmj (fmj (fmj q2 q3) q4) q5) q6 (3 : Int64) (nn.toInt64)) ∧ Fr n0 lcj732 ∧ Stand p l e room_1 s m #[(.int p1), (.long q2), (.long q3), (.long q4), (.long q5), (.long q6)] below meth c Tj732 lcj732 7 53 ∧ Tj732.heap = hj2 ∧ (∀ t, Steps p.tables e below (Tj732.setTop (mkF m 180 #[uI p1, uL q2, uS, uL q3, uS, uL q4, uS, uL q5, uS, uL q6, uS, uI nn, uI dd, uR ix, uI (fmn dd nn), uL q2, uS, uL (fmj q2 q3), uS, uL (fmj (fmj q2 q3) q4), uS, uL (fmj (fmj (fmj q2 q3) q4) q5), uS, uL ex3, uS] [])) t → Steps p.tables e below (s₁.setTop (entryFrame m #[(.int p1), (.long q2), (.long q3), (.long q4), (.long q5), (.long q6)] maxLocals)) t)) (fun kj => ?_) ?_
    ·  -- to the meeting at pc 180
      by_cases hc733 : (3 : Int32) < nn
      ·  -- pc 158: (3 : Int32) < nn
        have pre734 : ∀ t, Steps p.tables e below (T729.setTop (mkF m 164 #[uI p1, uL q2, uS, uL q3, uS, uL q4, uS, uL q5, uS, uL q6, uS, uI nn, uI dd, uR ix, uI (fmn dd nn), uL q2, uS, uL (fmj q2 q3), uS, uL (fmj (fmj q2 q3) q4), uS, uL (fmj (fmj (fmj q2 q3) q4) q5), uS, uL (nn.toInt64), uS] [(.int 3), (.int (fmn dd nn))])) t → Steps p.tables e below (s₁.setTop (entryFrame m #[(.int p1), (.long q2), (.long q3), (.long q4), (.long q5), (.long q6)] maxLocals)) t := fun t k => pre731 t (by
          show Steps p.tables e below (T729.setTop (mkF m 158 #[uI p1, uL q2, uS, uL q3, uS, uL q4, uS, uL q5, uS, uL q6, uS, uI nn, uI dd, uR ix, uI (fmn dd nn), uL q2, uS, uL (fmj q2 q3), uS, uL (fmj (fmj q2 q3) q4), uS, uL (fmj (fmj (fmj q2 q3) q4) q5), uS, uL (nn.toInt64), uS] [(.int 3), (.int nn)])) _
          refine XS.icmpNo X729.here hx rfl (hb hby at_158) rfl (tlt hc733).2.2.2 ?_
          refine XS.iload X729.here hx rfl (hb hby at_161) rfl ?_
          refine XS.iconst X729.here hx rfl (hb hby at_163) ?_
          exact k)
        by_cases hc735 : (3 : Int32) < (fmn dd nn)
        ·  -- pc 164: (3 : Int32) < (fmn dd nn)
          have pre736 : ∀ t, Steps p.tables e below (T729.setTop (mkF m 180 #[uI p1, uL q2, uS, uL q3, uS, uL q4, uS, uL q5, uS, uL q6, uS, uI nn, uI dd, uR ix, uI (fmn dd nn), uL q2, uS, uL (fmj q2 q3), uS, uL (fmj (fmj q2 q3) q4), uS, uL (fmj (fmj (fmj q2 q3) q4) q5), uS, uL (nn.toInt64), uS] [])) t → Steps p.tables e below (s₁.setTop (entryFrame m #[(.int p1), (.long q2), (.long q3), (.long q4), (.long q5), (.long q6)] maxLocals)) t := fun t k => pre734 t (by
            show Steps p.tables e below (T729.setTop (mkF m 164 #[uI p1, uL q2, uS, uL q3, uS, uL q4, uS, uL q5, uS, uL q6, uS, uI nn, uI dd, uR ix, uI (fmn dd nn), uL q2, uS, uL (fmj q2 q3), uS, uL (fmj (fmj q2 q3) q4), uS, uL (fmj (fmj (fmj q2 q3) q4) q5), uS, uL (nn.toInt64), uS] [(.int 3), (.int (fmn dd nn))])) _
            refine XS.icmpYes X729.here hx rfl (pc0 := 164) (pc' := 180) rfl (hb hby at_164) rfl (tlt hc735).2.2.1 (by decide) (by decide) ?_
            exact k)
          exact kj ⟨(nn.toInt64), _, T729, (if_neg (fun z => z.2.1 hc735)).symm, N730, X729, e729, pre736⟩
        ·  -- pc 164: not (3 : Int32) < (fmn dd nn)
          have pre737 : ∀ t, Steps p.tables e below (T729.setTop (mkF m 172 #[uI p1, uL q2, uS, uL q3, uS, uL q4, uS, uL q5, uS, uL q6, uS, uI nn, uI dd, uR ix, uI (fmn dd nn), uL q2, uS, uL (fmj q2 q3), uS, uL (fmj (fmj q2 q3) q4), uS, uL (fmj (fmj (fmj q2 q3) q4) q5), uS, uL (nn.toInt64), uS] [(.int (lcmpW (fmj (fmj (fmj q2 q3) q4) q5) q6))])) t → Steps p.tables e below (s₁.setTop (entryFrame m #[(.int p1), (.long q2), (.long q3), (.long q4), (.long q5), (.long q6)] maxLocals)) t := fun t k => pre734 t (by
            show Steps p.tables e below (T729.setTop (mkF m 164 #[uI p1, uL q2, uS, uL q3, uS, uL q4, uS, uL q5, uS, uL q6, uS, uI nn, uI dd, uR ix, uI (fmn dd nn), uL q2, uS, uL (fmj q2 q3), uS, uL (fmj (fmj q2 q3) q4), uS, uL (fmj (fmj (fmj q2 q3) q4) q5), uS, uL (nn.toInt64), uS] [(.int 3), (.int (fmn dd nn))])) _
            refine XS.icmpNo X729.here hx rfl (hb hby at_164) rfl (flt hc735).2.2.1 ?_
            refine XS.lload X729.here hx rfl (hb hby at_167) rfl ?_
            refine XS.lload X729.here hx rfl (hb hby at_169) rfl ?_
            refine XS.lcmp X729.here hx rfl (hb hby at_171) rfl ?_
            exact k)
          by_cases hc738 : (fmj (fmj (fmj q2 q3) q4) q5) < q6
          ·  -- pc 172: (fmj (fmj (fmj q2 q3) q4) q5) < q6
            have pre739 : ∀ t, Steps p.tables e below (T729.setTop (mkF m 180 #[uI p1, uL q2, uS, uL q3, uS, uL q4, uS, uL q5, uS, uL q6, uS, uI nn, uI dd, uR ix, uI (fmn dd nn), uL q2, uS, uL (fmj q2 q3), uS, uL (fmj (fmj q2 q3) q4), uS, uL (fmj (fmj (fmj q2 q3) q4) q5), uS, uL (nn.toInt64), uS] [])) t → Steps p.tables e below (s₁.setTop (entryFrame m #[(.int p1), (.long q2), (.long q3), (.long q4), (.long q5), (.long q6)] maxLocals)) t := fun t k => pre737 t (by
              show Steps p.tables e below (T729.setTop (mkF m 172 #[uI p1, uL q2, uS, uL q3, uS, uL q4, uS, uL q5, uS, uL q6, uS, uI nn, uI dd, uR ix, uI (fmn dd nn), uL q2, uS, uL (fmj q2 q3), uS, uL (fmj (fmj q2 q3) q4), uS, uL (fmj (fmj (fmj q2 q3) q4) q5), uS, uL (nn.toInt64), uS] [(.int (lcmpW (fmj (fmj (fmj q2 q3) q4) q5) q6))])) _
              refine XS.ifYes X729.here hx rfl (pc0 := 172) (pc' := 180) rfl (hb hby at_172) rfl ((if0 _ _).trans (tlt ((lw_lt _ _).mpr hc738)).1) (by decide) (by decide) ?_
              exact k)
            exact kj ⟨(nn.toInt64), _, T729, (if_neg (fun z => z.2.2 hc738)).symm, N730, X729, e729, pre739⟩
          ·  -- pc 172: not (fmj (fmj (fmj q2 q3) q4) q5) < q6
            have pre740 : ∀ t, Steps p.tables e below (T729.setTop (mkF m 180 #[uI p1, uL q2, uS, uL q3, uS, uL q4, uS, uL q5, uS, uL q6, uS, uI nn, uI dd, uR ix, uI (fmn dd nn), uL q2, uS, uL (fmj q2 q3), uS, uL (fmj (fmj q2 q3) q4), uS, uL (fmj (fmj (fmj q2 q3) q4) q5), uS, uL 3, uS] [])) t → Steps p.tables e below (s₁.setTop (entryFrame m #[(.int p1), (.long q2), (.long q3), (.long q4), (.long q5), (.long q6)] maxLocals)) t := fun t k => pre737 t (by
              show Steps p.tables e below (T729.setTop (mkF m 172 #[uI p1, uL q2, uS, uL q3, uS, uL q4, uS, uL q5, uS, uL q6, uS, uI nn, uI dd, uR ix, uI (fmn dd nn), uL q2, uS, uL (fmj q2 q3), uS, uL (fmj (fmj q2 q3) q4), uS, uL (fmj (fmj (fmj q2 q3) q4) q5), uS, uL (nn.toInt64), uS] [(.int (lcmpW (fmj (fmj (fmj q2 q3) q4) q5) q6))])) _
              refine XS.ifNo X729.here hx rfl (hb hby at_172) rfl ((if0 _ _).trans (flt (mt (lw_lt _ _).mp hc738)).1) ?_
              refine X729.ldc2Long hx hown (mvT hZ (own_w hw (i := 91) rfl)) (g := (mkF m 175 #[uI p1, uL q2, uS, uL q3, uS, uL q4, uS, uL q5, uS, uL q6, uS, uI nn, uI dd, uR ix, uI (fmn dd nn), uL q2, uS, uL (fmj q2 q3), uS, uL (fmj (fmj q2 q3) q4), uS, uL (fmj (fmj (fmj q2 q3) q4) q5), uS, uL (nn.toInt64), uS] [])) rfl (hb hby at_175) _ ?_
              refine XS.lstore X729.here hx rfl (hb hby at_178) rfl (l' := #[uI p1, uL q2, uS, uL q3, uS, uL q4, uS, uL q5, uS, uL q6, uS, uI nn, uI dd, uR ix, uI (fmn dd nn), uL q2, uS, uL (fmj q2 q3), uS, uL (fmj (fmj q2 q3) q4), uS, uL (fmj (fmj (fmj q2 q3) q4) q5), uS, uL 3, uS]) rfl ?_
              exact k)
            exact kj ⟨(3 : Int64), _, T729, (if_pos ⟨hc733, hc735, hc738⟩).symm, N730, X729, e729, pre740⟩
      ·  -- pc 158: not (3 : Int32) < nn
        have pre741 : ∀ t, Steps p.tables e below (T729.setTop (mkF m 180 #[uI p1, uL q2, uS, uL q3, uS, uL q4, uS, uL q5, uS, uL q6, uS, uI nn, uI dd, uR ix, uI (fmn dd nn), uL q2, uS, uL (fmj q2 q3), uS, uL (fmj (fmj q2 q3) q4), uS, uL (fmj (fmj (fmj q2 q3) q4) q5), uS, uL (nn.toInt64), uS] [])) t → Steps p.tables e below (s₁.setTop (entryFrame m #[(.int p1), (.long q2), (.long q3), (.long q4), (.long q5), (.long q6)] maxLocals)) t := fun t k => pre731 t (by
          show Steps p.tables e below (T729.setTop (mkF m 158 #[uI p1, uL q2, uS, uL q3, uS, uL q4, uS, uL q5, uS, uL q6, uS, uI nn, uI dd, uR ix, uI (fmn dd nn), uL q2, uS, uL (fmj q2 q3), uS, uL (fmj (fmj q2 q3) q4), uS, uL (fmj (fmj (fmj q2 q3) q4) q5), uS, uL (nn.toInt64), uS] [(.int 3), (.int nn)])) _
          refine XS.icmpYes X729.here hx rfl (pc0 := 158) (pc' := 180) rfl (hb hby at_158) rfl (flt hc733).2.2.2 (by decide) (by decide) ?_
          exact k)
        exact kj ⟨(nn.toInt64), _, T729, (if_neg (fun z => hc733 z.1)).symm, N730, X729, e729, pre741⟩
    ·  -- from the meeting at pc 180
      rintro ⟨ex3, lcj732, Tj732, hex3, Nj732, Xj732, ej732, prej732⟩
      have pre742 : ∀ t, Steps p.tables e below (Tj732.setTop (mkF m 183 #[uI p1, uL q2, uS, uL q3, uS, uL q4, uS, uL q5, uS, uL q6, uS, uI nn, uI dd, uR ix, uI (fmn dd nn), uL q2, uS, uL (fmj q2 q3), uS, uL (fmj (fmj q2 q3) q4), uS, uL (fmj (fmj (fmj q2 q3) q4) q5), uS, uL ex3, uS] [(.int 2), (.int nn)])) t → Steps p.tables e below (s₁.setTop (entryFrame m #[(.int p1), (.long q2), (.long q3), (.long q4), (.long q5), (.long q6)] maxLocals)) t := fun t k => prej732 t (by
        show Steps p.tables e below (Tj732.setTop (mkF m 180 #[uI p1, uL q2, uS, uL q3, uS, uL q4, uS, uL q5, uS, uL q6, uS, uI nn, uI dd, uR ix, uI (fmn dd nn), uL q2, uS, uL (fmj q2 q3), uS, uL (fmj (fmj q2 q3) q4), uS, uL (fmj (fmj (fmj q2 q3) q4) q5), uS, uL ex3, uS] [])) _
        refine XS.iload Xj732.here hx rfl (hb hby at_180) rfl ?_
        refine XS.iconst Xj732.here hx rfl (hb hby at_182) ?_
        exact k)
      refine cps (A := ∃ (ex2 : Int64) (lcj743 : List Loc) (Tj743 : State), (ex2 = own_p (2 : Int32) nn (fmn dd nn) (fmj (fmj q2 q3) q4) q6 (2 : Int64) ex3) ∧ Fr n0 lcj743 ∧ Stand p l e room_1 s m #[(.int p1), (.long q2), (.long q3), (.long q4), (.long q5), (.long q6)] below meth c Tj743 lcj743 7 53 ∧ Tj743.heap = hj2 ∧ (∀ t, Steps p.tables e below (Tj743.setTop (mkF m 205 #[uI p1, uL q2, uS, uL q3, uS, uL q4, uS, uL q5, uS, uL q6, uS, uI nn, uI dd, uR ix, uI (fmn dd nn), uL q2, uS, uL (fmj q2 q3), uS, uL (fmj (fmj q2 q3) q4), uS, uL (fmj (fmj (fmj q2 q3) q4) q5), uS, uL ex2, uS] [])) t → Steps p.tables e below (s₁.setTop (entryFrame m #[(.int p1), (.long q2), (.long q3), (.long q4), (.long q5), (.long q6)] maxLocals)) t)) (fun kj => ?_) ?_
      ·  -- to the meeting at pc 205
        by_cases hc744 : (2 : Int32) < nn
        ·  -- pc 183: (2 : Int32) < nn
          have pre745 : ∀ t, Steps p.tables e below (Tj732.setTop (mkF m 189 #[uI p1, uL q2, uS, uL q3, uS, uL q4, uS, uL q5, uS, uL q6, uS, uI nn, uI dd, uR ix, uI (fmn dd nn), uL q2, uS, uL (fmj q2 q3), uS, uL (fmj (fmj q2 q3) q4), uS, uL (fmj (fmj (fmj q2 q3) q4) q5), uS, uL ex3, uS] [(.int 2), (.int (fmn dd nn))])) t → Steps p.tables e below (s₁.setTop (entryFrame m #[(.int p1), (.long q2), (.long q3), (.long q4), (.long q5), (.long q6)] maxLocals)) t := fun t k => pre742 t (by
            show Steps p.tables e below (Tj732.setTop (mkF m 183 #[uI p1, uL q2, uS, uL q3, uS, uL q4, uS, uL q5, uS, uL q6, uS, uI nn, uI dd, uR ix, uI (fmn dd nn), uL q2, uS, uL (fmj q2 q3), uS, uL (fmj (fmj q2 q3) q4), uS, uL (fmj (fmj (fmj q2 q3) q4) q5), uS, uL ex3, uS] [(.int 2), (.int nn)])) _
            refine XS.icmpNo Xj732.here hx rfl (hb hby at_183) rfl (tlt hc744).2.2.2 ?_
            refine XS.iload Xj732.here hx rfl (hb hby at_186) rfl ?_
            refine XS.iconst Xj732.here hx rfl (hb hby at_188) ?_
            exact k)
          by_cases hc746 : (2 : Int32) < (fmn dd nn)
          ·  -- pc 189: (2 : Int32) < (fmn dd nn)
            have pre747 : ∀ t, Steps p.tables e below (Tj732.setTop (mkF m 205 #[uI p1, uL q2, uS, uL q3, uS, uL q4, uS, uL q5, uS, uL q6, uS, uI nn, uI dd, uR ix, uI (fmn dd nn), uL q2, uS, uL (fmj q2 q3), uS, uL (fmj (fmj q2 q3) q4), uS, uL (fmj (fmj (fmj q2 q3) q4) q5), uS, uL ex3, uS] [])) t → Steps p.tables e below (s₁.setTop (entryFrame m #[(.int p1), (.long q2), (.long q3), (.long q4), (.long q5), (.long q6)] maxLocals)) t := fun t k => pre745 t (by
              show Steps p.tables e below (Tj732.setTop (mkF m 189 #[uI p1, uL q2, uS, uL q3, uS, uL q4, uS, uL q5, uS, uL q6, uS, uI nn, uI dd, uR ix, uI (fmn dd nn), uL q2, uS, uL (fmj q2 q3), uS, uL (fmj (fmj q2 q3) q4), uS, uL (fmj (fmj (fmj q2 q3) q4) q5), uS, uL ex3, uS] [(.int 2), (.int (fmn dd nn))])) _
              refine XS.icmpYes Xj732.here hx rfl (pc0 := 189) (pc' := 205) rfl (hb hby at_189) rfl (tlt hc746).2.2.1 (by decide) (by decide) ?_
              exact k)
            exact kj ⟨ex3, _, Tj732, (if_neg (fun z => z.2.1 hc746)).symm, Nj732, Xj732, ej732, pre747⟩
          ·  -- pc 189: not (2 : Int32) < (fmn dd nn)
            have pre748 : ∀ t, Steps p.tables e below (Tj732.setTop (mkF m 197 #[uI p1, uL q2, uS, uL q3, uS, uL q4, uS, uL q5, uS, uL q6, uS, uI nn, uI dd, uR ix, uI (fmn dd nn), uL q2, uS, uL (fmj q2 q3), uS, uL (fmj (fmj q2 q3) q4), uS, uL (fmj (fmj (fmj q2 q3) q4) q5), uS, uL ex3, uS] [(.int (lcmpW (fmj (fmj q2 q3) q4) q6))])) t → Steps p.tables e below (s₁.setTop (entryFrame m #[(.int p1), (.long q2), (.long q3), (.long q4), (.long q5), (.long q6)] maxLocals)) t := fun t k => pre745 t (by
              show Steps p.tables e below (Tj732.setTop (mkF m 189 #[uI p1, uL q2, uS, uL q3, uS, uL q4, uS, uL q5, uS, uL q6, uS, uI nn, uI dd, uR ix, uI (fmn dd nn), uL q2, uS, uL (fmj q2 q3), uS, uL (fmj (fmj q2 q3) q4), uS, uL (fmj (fmj (fmj q2 q3) q4) q5), uS, uL ex3, uS] [(.int 2), (.int (fmn dd nn))])) _
              refine XS.icmpNo Xj732.here hx rfl (hb hby at_189) rfl (flt hc746).2.2.1 ?_
              refine XS.lload Xj732.here hx rfl (hb hby at_192) rfl ?_
              refine XS.lload Xj732.here hx rfl (hb hby at_194) rfl ?_
              refine XS.lcmp Xj732.here hx rfl (hb hby at_196) rfl ?_
              exact k)
            by_cases hc749 : (fmj (fmj q2 q3) q4) < q6
            ·  -- pc 197: (fmj (fmj q2 q3) q4) < q6
              have pre750 : ∀ t, Steps p.tables e below (Tj732.setTop (mkF m 205 #[uI p1, uL q2, uS, uL q3, uS, uL q4, uS, uL q5, uS, uL q6, uS, uI nn, uI dd, uR ix, uI (fmn dd nn), uL q2, uS, uL (fmj q2 q3), uS, uL (fmj (fmj q2 q3) q4), uS, uL (fmj (fmj (fmj q2 q3) q4) q5), uS, uL ex3, uS] [])) t → Steps p.tables e below (s₁.setTop (entryFrame m #[(.int p1), (.long q2), (.long q3), (.long q4), (.long q5), (.long q6)] maxLocals)) t := fun t k => pre748 t (by
                show Steps p.tables e below (Tj732.setTop (mkF m 197 #[uI p1, uL q2, uS, uL q3, uS, uL q4, uS, uL q5, uS, uL q6, uS, uI nn, uI dd, uR ix, uI (fmn dd nn), uL q2, uS, uL (fmj q2 q3), uS, uL (fmj (fmj q2 q3) q4), uS, uL (fmj (fmj (fmj q2 q3) q4) q5), uS, uL ex3, uS] [(.int (lcmpW (fmj (fmj q2 q3) q4) q6))])) _
                refine XS.ifYes Xj732.here hx rfl (pc0 := 197) (pc' := 205) rfl (hb hby at_197) rfl ((if0 _ _).trans (tlt ((lw_lt _ _).mpr hc749)).1) (by decide) (by decide) ?_
                exact k)
              exact kj ⟨ex3, _, Tj732, (if_neg (fun z => z.2.2 hc749)).symm, Nj732, Xj732, ej732, pre750⟩
            ·  -- pc 197: not (fmj (fmj q2 q3) q4) < q6
              have pre751 : ∀ t, Steps p.tables e below (Tj732.setTop (mkF m 205 #[uI p1, uL q2, uS, uL q3, uS, uL q4, uS, uL q5, uS, uL q6, uS, uI nn, uI dd, uR ix, uI (fmn dd nn), uL q2, uS, uL (fmj q2 q3), uS, uL (fmj (fmj q2 q3) q4), uS, uL (fmj (fmj (fmj q2 q3) q4) q5), uS, uL 2, uS] [])) t → Steps p.tables e below (s₁.setTop (entryFrame m #[(.int p1), (.long q2), (.long q3), (.long q4), (.long q5), (.long q6)] maxLocals)) t := fun t k => pre748 t (by
                show Steps p.tables e below (Tj732.setTop (mkF m 197 #[uI p1, uL q2, uS, uL q3, uS, uL q4, uS, uL q5, uS, uL q6, uS, uI nn, uI dd, uR ix, uI (fmn dd nn), uL q2, uS, uL (fmj q2 q3), uS, uL (fmj (fmj q2 q3) q4), uS, uL (fmj (fmj (fmj q2 q3) q4) q5), uS, uL ex3, uS] [(.int (lcmpW (fmj (fmj q2 q3) q4) q6))])) _
                refine XS.ifNo Xj732.here hx rfl (hb hby at_197) rfl ((if0 _ _).trans (flt (mt (lw_lt _ _).mp hc749)).1) ?_
                refine Xj732.ldc2Long hx hown (mvT hZ (own_w hw (i := 92) rfl)) (g := (mkF m 200 #[uI p1, uL q2, uS, uL q3, uS, uL q4, uS, uL q5, uS, uL q6, uS, uI nn, uI dd, uR ix, uI (fmn dd nn), uL q2, uS, uL (fmj q2 q3), uS, uL (fmj (fmj q2 q3) q4), uS, uL (fmj (fmj (fmj q2 q3) q4) q5), uS, uL ex3, uS] [])) rfl (hb hby at_200) _ ?_
                refine XS.lstore Xj732.here hx rfl (hb hby at_203) rfl (l' := #[uI p1, uL q2, uS, uL q3, uS, uL q4, uS, uL q5, uS, uL q6, uS, uI nn, uI dd, uR ix, uI (fmn dd nn), uL q2, uS, uL (fmj q2 q3), uS, uL (fmj (fmj q2 q3) q4), uS, uL (fmj (fmj (fmj q2 q3) q4) q5), uS, uL 2, uS]) rfl ?_
                exact k)
              exact kj ⟨(2 : Int64), _, Tj732, (if_pos ⟨hc744, hc746, hc749⟩).symm, Nj732, Xj732, ej732, pre751⟩
        ·  -- pc 183: not (2 : Int32) < nn
          have pre752 : ∀ t, Steps p.tables e below (Tj732.setTop (mkF m 205 #[uI p1, uL q2, uS, uL q3, uS, uL q4, uS, uL q5, uS, uL q6, uS, uI nn, uI dd, uR ix, uI (fmn dd nn), uL q2, uS, uL (fmj q2 q3), uS, uL (fmj (fmj q2 q3) q4), uS, uL (fmj (fmj (fmj q2 q3) q4) q5), uS, uL ex3, uS] [])) t → Steps p.tables e below (s₁.setTop (entryFrame m #[(.int p1), (.long q2), (.long q3), (.long q4), (.long q5), (.long q6)] maxLocals)) t := fun t k => pre742 t (by
            show Steps p.tables e below (Tj732.setTop (mkF m 183 #[uI p1, uL q2, uS, uL q3, uS, uL q4, uS, uL q5, uS, uL q6, uS, uI nn, uI dd, uR ix, uI (fmn dd nn), uL q2, uS, uL (fmj q2 q3), uS, uL (fmj (fmj q2 q3) q4), uS, uL (fmj (fmj (fmj q2 q3) q4) q5), uS, uL ex3, uS] [(.int 2), (.int nn)])) _
            refine XS.icmpYes Xj732.here hx rfl (pc0 := 183) (pc' := 205) rfl (hb hby at_183) rfl (flt hc744).2.2.2 (by decide) (by decide) ?_
            exact k)
          exact kj ⟨ex3, _, Tj732, (if_neg (fun z => hc744 z.1)).symm, Nj732, Xj732, ej732, pre752⟩
      ·  -- from the meeting at pc 205
        rintro ⟨ex2, lcj743, Tj743, hex2, Nj743, Xj743, ej743, prej743⟩
        have pre753 : ∀ t, Steps p.tables e below (Tj743.setTop (mkF m 208 #[uI p1, uL q2, uS, uL q3, uS, uL q4, uS, uL q5, uS, uL q6, uS, uI nn, uI dd, uR ix, uI (fmn dd nn), uL q2, uS, uL (fmj q2 q3), uS, uL (fmj (fmj q2 q3) q4), uS, uL (fmj (fmj (fmj q2 q3) q4) q5), uS, uL ex2, uS] [(.int 1), (.int nn)])) t → Steps p.tables e below (s₁.setTop (entryFrame m #[(.int p1), (.long q2), (.long q3), (.long q4), (.long q5), (.long q6)] maxLocals)) t := fun t k => prej743 t (by
          show Steps p.tables e below (Tj743.setTop (mkF m 205 #[uI p1, uL q2, uS, uL q3, uS, uL q4, uS, uL q5, uS, uL q6, uS, uI nn, uI dd, uR ix, uI (fmn dd nn), uL q2, uS, uL (fmj q2 q3), uS, uL (fmj (fmj q2 q3) q4), uS, uL (fmj (fmj (fmj q2 q3) q4) q5), uS, uL ex2, uS] [])) _
          refine XS.iload Xj743.here hx rfl (hb hby at_205) rfl ?_
          refine XS.iconst Xj743.here hx rfl (hb hby at_207) ?_
          exact k)
        refine cps (A := ∃ (ex1 : Int64) (lcj754 : List Loc) (Tj754 : State), (ex1 = own_p (1 : Int32) nn (fmn dd nn) (fmj q2 q3) q6 (1 : Int64) ex2) ∧ Fr n0 lcj754 ∧ Stand p l e room_1 s m #[(.int p1), (.long q2), (.long q3), (.long q4), (.long q5), (.long q6)] below meth c Tj754 lcj754 7 53 ∧ Tj754.heap = hj2 ∧ (∀ t, Steps p.tables e below (Tj754.setTop (mkF m 228 #[uI p1, uL q2, uS, uL q3, uS, uL q4, uS, uL q5, uS, uL q6, uS, uI nn, uI dd, uR ix, uI (fmn dd nn), uL q2, uS, uL (fmj q2 q3), uS, uL (fmj (fmj q2 q3) q4), uS, uL (fmj (fmj (fmj q2 q3) q4) q5), uS, uL ex1, uS] [])) t → Steps p.tables e below (s₁.setTop (entryFrame m #[(.int p1), (.long q2), (.long q3), (.long q4), (.long q5), (.long q6)] maxLocals)) t)) (fun kj => ?_) ?_
        ·  -- to the meeting at pc 228
          by_cases hc755 : (1 : Int32) < nn
          ·  -- pc 208: (1 : Int32) < nn
            have pre756 : ∀ t, Steps p.tables e below (Tj743.setTop (mkF m 214 #[uI p1, uL q2, uS, uL q3, uS, uL q4, uS, uL q5, uS, uL q6, uS, uI nn, uI dd, uR ix, uI (fmn dd nn), uL q2, uS, uL (fmj q2 q3), uS, uL (fmj (fmj q2 q3) q4), uS, uL (fmj (fmj (fmj q2 q3) q4) q5), uS, uL ex2, uS] [(.int 1), (.int (fmn dd nn))])) t → Steps p.tables e below (s₁.setTop (entryFrame m #[(.int p1), (.long q2), (.long q3), (.long q4), (.long q5), (.long q6)] maxLocals)) t := fun t k => pre753 t (by
              show Steps p.tables e below (Tj743.setTop (mkF m 208 #[uI p1, uL q2, uS, uL q3, uS, uL q4, uS, uL q5, uS, uL q6, uS, uI nn, uI dd, uR ix, uI (fmn dd nn), uL q2, uS, uL (fmj q2 q3), uS, uL (fmj (fmj q2 q3) q4), uS, uL (fmj (fmj (fmj q2 q3) q4) q5), uS, uL ex2, uS] [(.int 1), (.int nn)])) _
              refine XS.icmpNo Xj743.here hx rfl (hb hby at_208) rfl (tlt hc755).2.2.2 ?_
              refine XS.iload Xj743.here hx rfl (hb hby at_211) rfl ?_
              refine XS.iconst Xj743.here hx rfl (hb hby at_213) ?_
              exact k)
            by_cases hc757 : (1 : Int32) < (fmn dd nn)
            ·  -- pc 214: (1 : Int32) < (fmn dd nn)
              have pre758 : ∀ t, Steps p.tables e below (Tj743.setTop (mkF m 228 #[uI p1, uL q2, uS, uL q3, uS, uL q4, uS, uL q5, uS, uL q6, uS, uI nn, uI dd, uR ix, uI (fmn dd nn), uL q2, uS, uL (fmj q2 q3), uS, uL (fmj (fmj q2 q3) q4), uS, uL (fmj (fmj (fmj q2 q3) q4) q5), uS, uL ex2, uS] [])) t → Steps p.tables e below (s₁.setTop (entryFrame m #[(.int p1), (.long q2), (.long q3), (.long q4), (.long q5), (.long q6)] maxLocals)) t := fun t k => pre756 t (by
                show Steps p.tables e below (Tj743.setTop (mkF m 214 #[uI p1, uL q2, uS, uL q3, uS, uL q4, uS, uL q5, uS, uL q6, uS, uI nn, uI dd, uR ix, uI (fmn dd nn), uL q2, uS, uL (fmj q2 q3), uS, uL (fmj (fmj q2 q3) q4), uS, uL (fmj (fmj (fmj q2 q3) q4) q5), uS, uL ex2, uS] [(.int 1), (.int (fmn dd nn))])) _
                refine XS.icmpYes Xj743.here hx rfl (pc0 := 214) (pc' := 228) rfl (hb hby at_214) rfl (tlt hc757).2.2.1 (by decide) (by decide) ?_
                exact k)
              exact kj ⟨ex2, _, Tj743, (if_neg (fun z => z.2.1 hc757)).symm, Nj743, Xj743, ej743, pre758⟩
            ·  -- pc 214: not (1 : Int32) < (fmn dd nn)
              have pre759 : ∀ t, Steps p.tables e below (Tj743.setTop (mkF m 222 #[uI p1, uL q2, uS, uL q3, uS, uL q4, uS, uL q5, uS, uL q6, uS, uI nn, uI dd, uR ix, uI (fmn dd nn), uL q2, uS, uL (fmj q2 q3), uS, uL (fmj (fmj q2 q3) q4), uS, uL (fmj (fmj (fmj q2 q3) q4) q5), uS, uL ex2, uS] [(.int (lcmpW (fmj q2 q3) q6))])) t → Steps p.tables e below (s₁.setTop (entryFrame m #[(.int p1), (.long q2), (.long q3), (.long q4), (.long q5), (.long q6)] maxLocals)) t := fun t k => pre756 t (by
                show Steps p.tables e below (Tj743.setTop (mkF m 214 #[uI p1, uL q2, uS, uL q3, uS, uL q4, uS, uL q5, uS, uL q6, uS, uI nn, uI dd, uR ix, uI (fmn dd nn), uL q2, uS, uL (fmj q2 q3), uS, uL (fmj (fmj q2 q3) q4), uS, uL (fmj (fmj (fmj q2 q3) q4) q5), uS, uL ex2, uS] [(.int 1), (.int (fmn dd nn))])) _
                refine XS.icmpNo Xj743.here hx rfl (hb hby at_214) rfl (flt hc757).2.2.1 ?_
                refine XS.lload Xj743.here hx rfl (hb hby at_217) rfl ?_
                refine XS.lload Xj743.here hx rfl (hb hby at_219) rfl ?_
                refine XS.lcmp Xj743.here hx rfl (hb hby at_221) rfl ?_
                exact k)
              by_cases hc760 : (fmj q2 q3) < q6
              ·  -- pc 222: (fmj q2 q3) < q6
                have pre761 : ∀ t, Steps p.tables e below (Tj743.setTop (mkF m 228 #[uI p1, uL q2, uS, uL q3, uS, uL q4, uS, uL q5, uS, uL q6, uS, uI nn, uI dd, uR ix, uI (fmn dd nn), uL q2, uS, uL (fmj q2 q3), uS, uL (fmj (fmj q2 q3) q4), uS, uL (fmj (fmj (fmj q2 q3) q4) q5), uS, uL ex2, uS] [])) t → Steps p.tables e below (s₁.setTop (entryFrame m #[(.int p1), (.long q2), (.long q3), (.long q4), (.long q5), (.long q6)] maxLocals)) t := fun t k => pre759 t (by
                  show Steps p.tables e below (Tj743.setTop (mkF m 222 #[uI p1, uL q2, uS, uL q3, uS, uL q4, uS, uL q5, uS, uL q6, uS, uI nn, uI dd, uR ix, uI (fmn dd nn), uL q2, uS, uL (fmj q2 q3), uS, uL (fmj (fmj q2 q3) q4), uS, uL (fmj (fmj (fmj q2 q3) q4) q5), uS, uL ex2, uS] [(.int (lcmpW (fmj q2 q3) q6))])) _
                  refine XS.ifYes Xj743.here hx rfl (pc0 := 222) (pc' := 228) rfl (hb hby at_222) rfl ((if0 _ _).trans (tlt ((lw_lt _ _).mpr hc760)).1) (by decide) (by decide) ?_
                  exact k)
                exact kj ⟨ex2, _, Tj743, (if_neg (fun z => z.2.2 hc760)).symm, Nj743, Xj743, ej743, pre761⟩
              ·  -- pc 222: not (fmj q2 q3) < q6
                have pre762 : ∀ t, Steps p.tables e below (Tj743.setTop (mkF m 228 #[uI p1, uL q2, uS, uL q3, uS, uL q4, uS, uL q5, uS, uL q6, uS, uI nn, uI dd, uR ix, uI (fmn dd nn), uL q2, uS, uL (fmj q2 q3), uS, uL (fmj (fmj q2 q3) q4), uS, uL (fmj (fmj (fmj q2 q3) q4) q5), uS, uL 1, uS] [])) t → Steps p.tables e below (s₁.setTop (entryFrame m #[(.int p1), (.long q2), (.long q3), (.long q4), (.long q5), (.long q6)] maxLocals)) t := fun t k => pre759 t (by
                  show Steps p.tables e below (Tj743.setTop (mkF m 222 #[uI p1, uL q2, uS, uL q3, uS, uL q4, uS, uL q5, uS, uL q6, uS, uI nn, uI dd, uR ix, uI (fmn dd nn), uL q2, uS, uL (fmj q2 q3), uS, uL (fmj (fmj q2 q3) q4), uS, uL (fmj (fmj (fmj q2 q3) q4) q5), uS, uL ex2, uS] [(.int (lcmpW (fmj q2 q3) q6))])) _
                  refine XS.ifNo Xj743.here hx rfl (hb hby at_222) rfl ((if0 _ _).trans (flt (mt (lw_lt _ _).mp hc760)).1) ?_
                  refine XS.lconst Xj743.here hx rfl (hb hby at_225) ?_
                  refine XS.lstore Xj743.here hx rfl (hb hby at_226) rfl (l' := #[uI p1, uL q2, uS, uL q3, uS, uL q4, uS, uL q5, uS, uL q6, uS, uI nn, uI dd, uR ix, uI (fmn dd nn), uL q2, uS, uL (fmj q2 q3), uS, uL (fmj (fmj q2 q3) q4), uS, uL (fmj (fmj (fmj q2 q3) q4) q5), uS, uL 1, uS]) rfl ?_
                  exact k)
                exact kj ⟨(1 : Int64), _, Tj743, (if_pos ⟨hc755, hc757, hc760⟩).symm, Nj743, Xj743, ej743, pre762⟩
          ·  -- pc 208: not (1 : Int32) < nn
            have pre763 : ∀ t, Steps p.tables e below (Tj743.setTop (mkF m 228 #[uI p1, uL q2, uS, uL q3, uS, uL q4, uS, uL q5, uS, uL q6, uS, uI nn, uI dd, uR ix, uI (fmn dd nn), uL q2, uS, uL (fmj q2 q3), uS, uL (fmj (fmj q2 q3) q4), uS, uL (fmj (fmj (fmj q2 q3) q4) q5), uS, uL ex2, uS] [])) t → Steps p.tables e below (s₁.setTop (entryFrame m #[(.int p1), (.long q2), (.long q3), (.long q4), (.long q5), (.long q6)] maxLocals)) t := fun t k => pre753 t (by
              show Steps p.tables e below (Tj743.setTop (mkF m 208 #[uI p1, uL q2, uS, uL q3, uS, uL q4, uS, uL q5, uS, uL q6, uS, uI nn, uI dd, uR ix, uI (fmn dd nn), uL q2, uS, uL (fmj q2 q3), uS, uL (fmj (fmj q2 q3) q4), uS, uL (fmj (fmj (fmj q2 q3) q4) q5), uS, uL ex2, uS] [(.int 1), (.int nn)])) _
              refine XS.icmpYes Xj743.here hx rfl (pc0 := 208) (pc' := 228) rfl (hb hby at_208) rfl (flt hc755).2.2.2 (by decide) (by decide) ?_
              exact k)
            exact kj ⟨ex2, _, Tj743, (if_neg (fun z => hc755 z.1)).symm, Nj743, Xj743, ej743, pre763⟩
        ·  -- from the meeting at pc 228
          rintro ⟨ex1, lcj754, Tj754, hex1, Nj754, Xj754, ej754, prej754⟩
          have pre764 : ∀ t, Steps p.tables e below (Tj754.setTop (mkF m 230 #[uI p1, uL q2, uS, uL q3, uS, uL q4, uS, uL q5, uS, uL q6, uS, uI nn, uI dd, uR ix, uI (fmn dd nn), uL q2, uS, uL (fmj q2 q3), uS, uL (fmj (fmj q2 q3) q4), uS, uL (fmj (fmj (fmj q2 q3) q4) q5), uS, uL ex1, uS] [(.int nn)])) t → Steps p.tables e below (s₁.setTop (entryFrame m #[(.int p1), (.long q2), (.long q3), (.long q4), (.long q5), (.long q6)] maxLocals)) t := fun t k => prej754 t (by
            show Steps p.tables e below (Tj754.setTop (mkF m 228 #[uI p1, uL q2, uS, uL q3, uS, uL q4, uS, uL q5, uS, uL q6, uS, uI nn, uI dd, uR ix, uI (fmn dd nn), uL q2, uS, uL (fmj q2 q3), uS, uL (fmj (fmj q2 q3) q4), uS, uL (fmj (fmj (fmj q2 q3) q4) q5), uS, uL ex1, uS] [])) _
            refine XS.iload Xj754.here hx rfl (hb hby at_228) rfl ?_
            exact k)
          refine cps (A := ∃ (ex0 : Int64) (lcj765 : List Loc) (Tj765 : State), (ex0 = own_p (0 : Int32) nn (fmn dd nn) q2 q6 (0 : Int64) ex1) ∧ Fr n0 lcj765 ∧ Stand p l e room_1 s m #[(.int p1), (.long q2), (.long q3), (.long q4), (.long q5), (.long q6)] below meth c Tj765 lcj765 7 53 ∧ Tj765.heap = hj2 ∧ (∀ t, Steps p.tables e below (Tj765.setTop (mkF m 249 #[uI p1, uL q2, uS, uL q3, uS, uL q4, uS, uL q5, uS, uL q6, uS, uI nn, uI dd, uR ix, uI (fmn dd nn), uL q2, uS, uL (fmj q2 q3), uS, uL (fmj (fmj q2 q3) q4), uS, uL (fmj (fmj (fmj q2 q3) q4) q5), uS, uL ex0, uS] [])) t → Steps p.tables e below (s₁.setTop (entryFrame m #[(.int p1), (.long q2), (.long q3), (.long q4), (.long q5), (.long q6)] maxLocals)) t)) (fun kj => ?_) ?_
          ·  -- to the meeting at pc 249
            by_cases hc766 : (0 : Int32) < nn
            ·  -- pc 230: (0 : Int32) < nn
              have pre767 : ∀ t, Steps p.tables e below (Tj754.setTop (mkF m 235 #[uI p1, uL q2, uS, uL q3, uS, uL q4, uS, uL q5, uS, uL q6, uS, uI nn, uI dd, uR ix, uI (fmn dd nn), uL q2, uS, uL (fmj q2 q3), uS, uL (fmj (fmj q2 q3) q4), uS, uL (fmj (fmj (fmj q2 q3) q4) q5), uS, uL ex1, uS] [(.int (fmn dd nn))])) t → Steps p.tables e below (s₁.setTop (entryFrame m #[(.int p1), (.long q2), (.long q3), (.long q4), (.long q5), (.long q6)] maxLocals)) t := fun t k => pre764 t (by
                show Steps p.tables e below (Tj754.setTop (mkF m 230 #[uI p1, uL q2, uS, uL q3, uS, uL q4, uS, uL q5, uS, uL q6, uS, uI nn, uI dd, uR ix, uI (fmn dd nn), uL q2, uS, uL (fmj q2 q3), uS, uL (fmj (fmj q2 q3) q4), uS, uL (fmj (fmj (fmj q2 q3) q4) q5), uS, uL ex1, uS] [(.int nn)])) _
                refine XS.ifNo Xj754.here hx rfl (hb hby at_230) rfl ((if0 _ _).trans (tlt hc766).2.2.2) ?_
                refine XS.iload Xj754.here hx rfl (hb hby at_233) rfl ?_
                exact k)
              by_cases hc768 : (0 : Int32) < (fmn dd nn)
              ·  -- pc 235: (0 : Int32) < (fmn dd nn)
                have pre769 : ∀ t, Steps p.tables e below (Tj754.setTop (mkF m 249 #[uI p1, uL q2, uS, uL q3, uS, uL q4, uS, uL q5, uS, uL q6, uS, uI nn, uI dd, uR ix, uI (fmn dd nn), uL q2, uS, uL (fmj q2 q3), uS, uL (fmj (fmj q2 q3) q4), uS, uL (fmj (fmj (fmj q2 q3) q4) q5), uS, uL ex1, uS] [])) t → Steps p.tables e below (s₁.setTop (entryFrame m #[(.int p1), (.long q2), (.long q3), (.long q4), (.long q5), (.long q6)] maxLocals)) t := fun t k => pre767 t (by
                  show Steps p.tables e below (Tj754.setTop (mkF m 235 #[uI p1, uL q2, uS, uL q3, uS, uL q4, uS, uL q5, uS, uL q6, uS, uI nn, uI dd, uR ix, uI (fmn dd nn), uL q2, uS, uL (fmj q2 q3), uS, uL (fmj (fmj q2 q3) q4), uS, uL (fmj (fmj (fmj q2 q3) q4) q5), uS, uL ex1, uS] [(.int (fmn dd nn))])) _
                  refine XS.ifYes Xj754.here hx rfl (pc0 := 235) (pc' := 249) rfl (hb hby at_235) rfl ((if0 _ _).trans (tlt hc768).2.2.1) (by decide) (by decide) ?_
                  exact k)
                exact kj ⟨ex1, _, Tj754, (if_neg (fun z => z.2.1 hc768)).symm, Nj754, Xj754, ej754, pre769⟩
              ·  -- pc 235: not (0 : Int32) < (fmn dd nn)
                have pre770 : ∀ t, Steps p.tables e below (Tj754.setTop (mkF m 243 #[uI p1, uL q2, uS, uL q3, uS, uL q4, uS, uL q5, uS, uL q6, uS, uI nn, uI dd, uR ix, uI (fmn dd nn), uL q2, uS, uL (fmj q2 q3), uS, uL (fmj (fmj q2 q3) q4), uS, uL (fmj (fmj (fmj q2 q3) q4) q5), uS, uL ex1, uS] [(.int (lcmpW q2 q6))])) t → Steps p.tables e below (s₁.setTop (entryFrame m #[(.int p1), (.long q2), (.long q3), (.long q4), (.long q5), (.long q6)] maxLocals)) t := fun t k => pre767 t (by
                  show Steps p.tables e below (Tj754.setTop (mkF m 235 #[uI p1, uL q2, uS, uL q3, uS, uL q4, uS, uL q5, uS, uL q6, uS, uI nn, uI dd, uR ix, uI (fmn dd nn), uL q2, uS, uL (fmj q2 q3), uS, uL (fmj (fmj q2 q3) q4), uS, uL (fmj (fmj (fmj q2 q3) q4) q5), uS, uL ex1, uS] [(.int (fmn dd nn))])) _
                  refine XS.ifNo Xj754.here hx rfl (hb hby at_235) rfl ((if0 _ _).trans (flt hc768).2.2.1) ?_
                  refine XS.lload Xj754.here hx rfl (hb hby at_238) rfl ?_
                  refine XS.lload Xj754.here hx rfl (hb hby at_240) rfl ?_
                  refine XS.lcmp Xj754.here hx rfl (hb hby at_242) rfl ?_
                  exact k)
                by_cases hc771 : q2 < q6
                ·  -- pc 243: q2 < q6
                  have pre772 : ∀ t, Steps p.tables e below (Tj754.setTop (mkF m 249 #[uI p1, uL q2, uS, uL q3, uS, uL q4, uS, uL q5, uS, uL q6, uS, uI nn, uI dd, uR ix, uI (fmn dd nn), uL q2, uS, uL (fmj q2 q3), uS, uL (fmj (fmj q2 q3) q4), uS, uL (fmj (fmj (fmj q2 q3) q4) q5), uS, uL ex1, uS] [])) t → Steps p.tables e below (s₁.setTop (entryFrame m #[(.int p1), (.long q2), (.long q3), (.long q4), (.long q5), (.long q6)] maxLocals)) t := fun t k => pre770 t (by
                    show Steps p.tables e below (Tj754.setTop (mkF m 243 #[uI p1, uL q2, uS, uL q3, uS, uL q4, uS, uL q5, uS, uL q6, uS, uI nn, uI dd, uR ix, uI (fmn dd nn), uL q2, uS, uL (fmj q2 q3), uS, uL (fmj (fmj q2 q3) q4), uS, uL (fmj (fmj (fmj q2 q3) q4) q5), uS, uL ex1, uS] [(.int (lcmpW q2 q6))])) _
                    refine XS.ifYes Xj754.here hx rfl (pc0 := 243) (pc' := 249) rfl (hb hby at_243) rfl ((if0 _ _).trans (tlt ((lw_lt _ _).mpr hc771)).1) (by decide) (by decide) ?_
                    exact k)
                  exact kj ⟨ex1, _, Tj754, (if_neg (fun z => z.2.2 hc771)).symm, Nj754, Xj754, ej754, pre772⟩
                ·  -- pc 243: not q2 < q6
                  have pre773 : ∀ t, Steps p.tables e below (Tj754.setTop (mkF m 249 #[uI p1, uL q2, uS, uL q3, uS, uL q4, uS, uL q5, uS, uL q6, uS, uI nn, uI dd, uR ix, uI (fmn dd nn), uL q2, uS, uL (fmj q2 q3), uS, uL (fmj (fmj q2 q3) q4), uS, uL (fmj (fmj (fmj q2 q3) q4) q5), uS, uL 0, uS] [])) t → Steps p.tables e below (s₁.setTop (entryFrame m #[(.int p1), (.long q2), (.long q3), (.long q4), (.long q5), (.long q6)] maxLocals)) t := fun t k => pre770 t (by
                    show Steps p.tables e below (Tj754.setTop (mkF m 243 #[uI p1, uL q2, uS, uL q3, uS, uL q4, uS, uL q5, uS, uL q6, uS, uI nn, uI dd, uR ix, uI (fmn dd nn), uL q2, uS, uL (fmj q2 q3), uS, uL (fmj (fmj q2 q3) q4), uS, uL (fmj (fmj (fmj q2 q3) q4) q5), uS, uL ex1, uS] [(.int (lcmpW q2 q6))])) _
                    refine XS.ifNo Xj754.here hx rfl (hb hby at_243) rfl ((if0 _ _).trans (flt (mt (lw_lt _ _).mp hc771)).1) ?_
                    refine XS.lconst Xj754.here hx rfl (hb hby at_246) ?_
                    refine XS.lstore Xj754.here hx rfl (hb hby at_247) rfl (l' := #[uI p1, uL q2, uS, uL q3, uS, uL q4, uS, uL q5, uS, uL q6, uS, uI nn, uI dd, uR ix, uI (fmn dd nn), uL q2, uS, uL (fmj q2 q3), uS, uL (fmj (fmj q2 q3) q4), uS, uL (fmj (fmj (fmj q2 q3) q4) q5), uS, uL 0, uS]) rfl ?_
                    exact k)
                  exact kj ⟨(0 : Int64), _, Tj754, (if_pos ⟨hc766, hc768, hc771⟩).symm, Nj754, Xj754, ej754, pre773⟩
            ·  -- pc 230: not (0 : Int32) < nn
              have pre774 : ∀ t, Steps p.tables e below (Tj754.setTop (mkF m 249 #[uI p1, uL q2, uS, uL q3, uS, uL q4, uS, uL q5, uS, uL q6, uS, uI nn, uI dd, uR ix, uI (fmn dd nn), uL q2, uS, uL (fmj q2 q3), uS, uL (fmj (fmj q2 q3) q4), uS, uL (fmj (fmj (fmj q2 q3) q4) q5), uS, uL ex1, uS] [])) t → Steps p.tables e below (s₁.setTop (entryFrame m #[(.int p1), (.long q2), (.long q3), (.long q4), (.long q5), (.long q6)] maxLocals)) t := fun t k => pre764 t (by
                show Steps p.tables e below (Tj754.setTop (mkF m 230 #[uI p1, uL q2, uS, uL q3, uS, uL q4, uS, uL q5, uS, uL q6, uS, uI nn, uI dd, uR ix, uI (fmn dd nn), uL q2, uS, uL (fmj q2 q3), uS, uL (fmj (fmj q2 q3) q4), uS, uL (fmj (fmj (fmj q2 q3) q4) q5), uS, uL ex1, uS] [(.int nn)])) _
                refine XS.ifYes Xj754.here hx rfl (pc0 := 230) (pc' := 249) rfl (hb hby at_230) rfl ((if0 _ _).trans (flt hc766).2.2.2) (by decide) (by decide) ?_
                exact k)
              exact kj ⟨ex1, _, Tj754, (if_neg (fun z => hc766 z.1)).symm, Nj754, Xj754, ej754, pre774⟩
          ·  -- from the meeting at pc 249
            rintro ⟨ex0, lcj765, Tj765, hex0, Nj765, Xj765, ej765, prej765⟩
            have pre775 : ∀ t, Steps p.tables e below (Tj765.setTop (mkF m 253 #[uI p1, uL q2, uS, uL q3, uS, uL q4, uS, uL q5, uS, uL q6, uS, uI nn, uI dd, uR ix, uI (fmn dd nn), uL q2, uS, uL (fmj q2 q3), uS, uL (fmj (fmj q2 q3) q4), uS, uL (fmj (fmj (fmj q2 q3) q4) q5), uS, uL ex0, uS] [(.long q6), (.ref ix)])) t → Steps p.tables e below (s₁.setTop (entryFrame m #[(.int p1), (.long q2), (.long q3), (.long q4), (.long q5), (.long q6)] maxLocals)) t := fun t k => prej765 t (by
              show Steps p.tables e below (Tj765.setTop (mkF m 249 #[uI p1, uL q2, uS, uL q3, uS, uL q4, uS, uL q5, uS, uL q6, uS, uI nn, uI dd, uR ix, uI (fmn dd nn), uL q2, uS, uL (fmj q2 q3), uS, uL (fmj (fmj q2 q3) q4), uS, uL (fmj (fmj (fmj q2 q3) q4) q5), uS, uL ex0, uS] [])) _
              refine XS.aload Xj765.here hx rfl (hb hby at_249) rfl rfl ?_
              refine XS.lload Xj765.here hx rfl (hb hby at_251) rfl ?_
              exact k)
            rcases hR.1 with hc | hc | hc | hc | hc
            ·  -- count = 0
              subst hc
              -- pc 253: BatchIndex.firstReaching by rmfr0
              obtain ⟨cq776, kq776, q776a, q776b, q776c⟩ := isOf hZ ej765 fjj2_0
              obtain ⟨_, _, ⟨T776, L776, ck776, cn776⟩, -, X776, ⟨Lc776, hQ776, l776, y776, z776⟩, st776⟩ := Xj765.virtualBack hx (y := (⟨KC, "firstReaching", "(J)J"⟩ : MethodName)) (z := (⟨KC, "firstReaching", "(J)J"⟩ : MethodName)) hown (mvT hZ (own_w hw (i := 65) rfl)) (mvT hZ (own_w hw (i := 66) rfl)) (notFace_of_selects (args := #[]) (mvT hZ (own_w hw (i := 68) rfl))) (mvT hZ (own_w hw (i := 68) rfl)) (mvT hZ (own_w hw (i := 67) rfl)) (by decide) (backOf (W := 0) (rmfr0 l Z a0 hw [] ix q6 ar kar fz x0 x1 x2 x3 x4 x5 x6 x7 hj2 n0 zsj2 fjj2_1 fjj2_2 fjj2_3 fjj2_4) hZ (own_w hw (i := 69) rfl) (own_w hw (i := 2) rfl) (by decide) (by decide)) q776a q776c (g := (mkF m 253 #[uI p1, uL q2, uS, uL q3, uS, uL q4, uS, uL q5, uS, uL q6, uS, uI nn, uI dd, uR ix, uI (fmn dd nn), uL q2, uS, uL (fmj q2 q3), uS, uL (fmj (fmj q2 q3) q4), uS, uL (fmj (fmj (fmj q2 q3) q4) q5), uS, uL ex0, uS] [(.long q6), (.ref ix)])) rfl (by rw [hml]; rfl) (Steps.refl _) (argsL := [(.long q6)]) (rest := []) (lenOf pd_335 rfl) rfl (by show 2 * 0 + _ ≤ _; exact Nat.le_of_eq rfl) (hb hby at_253) (fun _ _ => ⟨rfl, ej765, (by decide : 7 + 0 ≤ _), (by decide : 53 + 0 ≤ _)⟩)
              dsimp only [Pt.U, Pt.locs, Pt.cells, Pt.slots] at X776 l776 y776 z776 st776 hQ776
              subst y776 z776
              obtain ⟨rfl, N776q, e776⟩ := hQ776
              have N777 : Fr n0 L776 := by rw [l776]; exact Fr.app Nj765 N776q
              have hs778 : (fz + (0 : Int64)) = ex0 := ((own_fr_0 fz x0 x1 x2 x3 q6).symm.trans ((hR.2 q6).trans (own_exj _ _ _ _ _ _ _ _ _ _ _ hex0 hex1 hex2 hex3)))
              obtain ⟨fs, hr, hrun, hended, hW, hsame⟩ := X776.leave (v := some (.int 1)) (fun h => by rw [Bd.returns] at h; cases h) Bd.notSynchronized
              refine ⟨_, _, pre775 _ ?_, hrun, hended, _, _, rfl, ?_, ⟨_, rfl⟩, hW, hsame.mono (by decide) (by decide)⟩
              · show Steps p.tables e below (Tj765.setTop (mkF m 253 #[uI p1, uL q2, uS, uL q3, uS, uL q4, uS, uL q5, uS, uL q6, uS, uI nn, uI dd, uR ix, uI (fmn dd nn), uL q2, uS, uL (fmj q2 q3), uS, uL (fmj (fmj q2 q3) q4), uS, uL (fmj (fmj (fmj q2 q3) q4) q5), uS, uL ex0, uS] [(.long q6), (.ref ix)])) _
                refine st776.trans ?_
                refine XS.lload X776.here hx rfl (hb hby at_256) rfl ?_
                refine XS.lcmp X776.here hx rfl (hb hby at_258) rfl ?_
                show Steps p.tables e below (T776.setTop (mkF m 259 #[uI p1, uL q2, uS, uL q3, uS, uL q4, uS, uL q5, uS, uL q6, uS, uI nn, uI dd, uR ix, uI (fmn dd nn), uL q2, uS, uL (fmj q2 q3), uS, uL (fmj (fmj q2 q3) q4), uS, uL (fmj (fmj (fmj q2 q3) q4) q5), uS, uL ex0, uS] [(.int (lcmpW (fz + (0 : Int64)) ex0))])) _
                refine XS.ifNo X776.here hx rfl (hb hby at_259) rfl ((if0 _ _).trans (teq ((lw_eq _ _).mpr hs778)).2) ?_
                refine XS.iconst X776.here hx rfl (hb hby at_262) ?_
                refine XS.goto X776.here hx rfl (pc0 := 263) (pc' := 267) rfl (hb hby at_263) (by decide) (by decide) ?_
                exact retN X776 hx (t := .boolean) Bd.returns (by simp) (hb hby at_267) hr
              · show Q0 Z p1 q2 q3 q4 q5 q6 w_NONE kw h0 n0 _ T776.heap _
                rw [e776]
                exact ⟨rfl, N777⟩
            ·  -- count = 1
              subst hc
              -- pc 253: BatchIndex.firstReaching by rmfr1
              obtain ⟨cq779, kq779, q779a, q779b, q779c⟩ := isOf hZ ej765 fjj2_0
              obtain ⟨_, _, ⟨T779, L779, ck779, cn779⟩, -, X779, ⟨Lc779, hQ779, l779, y779, z779⟩, st779⟩ := Xj765.virtualBack hx (y := (⟨KC, "firstReaching", "(J)J"⟩ : MethodName)) (z := (⟨KC, "firstReaching", "(J)J"⟩ : MethodName)) hown (mvT hZ (own_w hw (i := 65) rfl)) (mvT hZ (own_w hw (i := 66) rfl)) (notFace_of_selects (args := #[]) (mvT hZ (own_w hw (i := 68) rfl))) (mvT hZ (own_w hw (i := 68) rfl)) (mvT hZ (own_w hw (i := 67) rfl)) (by decide) (backOf (W := 0) (rmfr1 l Z a0 hw [] ix q6 ar kar fz x0 x1 x2 x3 x4 x5 x6 x7 hj2 n0 zsj2 fjj2_1 fjj2_2 fjj2_3 fjj2_4) hZ (own_w hw (i := 69) rfl) (own_w hw (i := 2) rfl) (by decide) (by decide)) q779a q779c (g := (mkF m 253 #[uI p1, uL q2, uS, uL q3, uS, uL q4, uS, uL q5, uS, uL q6, uS, uI nn, uI dd, uR ix, uI (fmn dd nn), uL q2, uS, uL (fmj q2 q3), uS, uL (fmj (fmj q2 q3) q4), uS, uL (fmj (fmj (fmj q2 q3) q4) q5), uS, uL ex0, uS] [(.long q6), (.ref ix)])) rfl (by rw [hml]; rfl) (Steps.refl _) (argsL := [(.long q6)]) (rest := []) (lenOf pd_335 rfl) rfl (by show 2 * 0 + _ ≤ _; exact Nat.le_of_eq rfl) (hb hby at_253) (fun _ _ => ⟨rfl, ej765, (by decide : 7 + 0 ≤ _), (by decide : 53 + 0 ≤ _)⟩)
              dsimp only [Pt.U, Pt.locs, Pt.cells, Pt.slots] at X779 l779 y779 z779 st779 hQ779
              subst y779 z779
              obtain ⟨rfl, N779q, e779⟩ := hQ779
              have N780 : Fr n0 L779 := by rw [l779]; exact Fr.app Nj765 N779q
              have hs781 : (ffr1 q6 fz x0) = ex0 := ((own_fr_1 fz x0 x1 x2 x3 q6).symm.trans ((hR.2 q6).trans (own_exj _ _ _ _ _ _ _ _ _ _ _ hex0 hex1 hex2 hex3)))
              obtain ⟨fs, hr, hrun, hended, hW, hsame⟩ := X779.leave (v := some (.int 1)) (fun h => by rw [Bd.returns] at h; cases h) Bd.notSynchronized
              refine ⟨_, _, pre775 _ ?_, hrun, hended, _, _, rfl, ?_, ⟨_, rfl⟩, hW, hsame.mono (by decide) (by decide)⟩
              · show Steps p.tables e below (Tj765.setTop (mkF m 253 #[uI p1, uL q2, uS, uL q3, uS, uL q4, uS, uL q5, uS, uL q6, uS, uI nn, uI dd, uR ix, uI (fmn dd nn), uL q2, uS, uL (fmj q2 q3), uS, uL (fmj (fmj q2 q3) q4), uS, uL (fmj (fmj (fmj q2 q3) q4) q5), uS, uL ex0, uS] [(.long q6), (.ref ix)])) _
                refine st779.trans ?_
                refine XS.lload X779.here hx rfl (hb hby at_256) rfl ?_
                refine XS.lcmp X779.here hx rfl (hb hby at_258) rfl ?_
                show Steps p.tables e below (T779.setTop (mkF m 259 #[uI p1, uL q2, uS, uL q3, uS, uL q4, uS, uL q5, uS, uL q6, uS, uI nn, uI dd, uR ix, uI (fmn dd nn), uL q2, uS, uL (fmj q2 q3), uS, uL (fmj (fmj q2 q3) q4), uS, uL (fmj (fmj (fmj q2 q3) q4) q5), uS, uL ex0, uS] [(.int (lcmpW (ffr1 q6 fz x0) ex0))])) _
                refine XS.ifNo X779.here hx rfl (hb hby at_259) rfl ((if0 _ _).trans (teq ((lw_eq _ _).mpr hs781)).2) ?_
                refine XS.iconst X779.here hx rfl (hb hby at_262) ?_
                refine XS.goto X779.here hx rfl (pc0 := 263) (pc' := 267) rfl (hb hby at_263) (by decide) (by decide) ?_
                exact retN X779 hx (t := .boolean) Bd.returns (by simp) (hb hby at_267) hr
              · show Q0 Z p1 q2 q3 q4 q5 q6 w_NONE kw h0 n0 _ T779.heap _
                rw [e779]
                exact ⟨rfl, N780⟩
            ·  -- count = 2
              subst hc
              -- pc 253: BatchIndex.firstReaching by rmfr2
              obtain ⟨cq782, kq782, q782a, q782b, q782c⟩ := isOf hZ ej765 fjj2_0
              obtain ⟨_, _, ⟨T782, L782, ck782, cn782⟩, -, X782, ⟨Lc782, hQ782, l782, y782, z782⟩, st782⟩ := Xj765.virtualBack hx (y := (⟨KC, "firstReaching", "(J)J"⟩ : MethodName)) (z := (⟨KC, "firstReaching", "(J)J"⟩ : MethodName)) hown (mvT hZ (own_w hw (i := 65) rfl)) (mvT hZ (own_w hw (i := 66) rfl)) (notFace_of_selects (args := #[]) (mvT hZ (own_w hw (i := 68) rfl))) (mvT hZ (own_w hw (i := 68) rfl)) (mvT hZ (own_w hw (i := 67) rfl)) (by decide) (backOf (W := 0) (rmfr2 l Z a0 hw [] ix q6 ar kar fz x0 x1 x2 x3 x4 x5 x6 x7 hj2 n0 zsj2 fjj2_1 fjj2_2 fjj2_3 fjj2_4) hZ (own_w hw (i := 69) rfl) (own_w hw (i := 2) rfl) (by decide) (by decide)) q782a q782c (g := (mkF m 253 #[uI p1, uL q2, uS, uL q3, uS, uL q4, uS, uL q5, uS, uL q6, uS, uI nn, uI dd, uR ix, uI (fmn dd nn), uL q2, uS, uL (fmj q2 q3), uS, uL (fmj (fmj q2 q3) q4), uS, uL (fmj (fmj (fmj q2 q3) q4) q5), uS, uL ex0, uS] [(.long q6), (.ref ix)])) rfl (by rw [hml]; rfl) (Steps.refl _) (argsL := [(.long q6)]) (rest := []) (lenOf pd_335 rfl) rfl (by show 2 * 0 + _ ≤ _; exact Nat.le_of_eq rfl) (hb hby at_253) (fun _ _ => ⟨rfl, ej765, (by decide : 7 + 0 ≤ _), (by decide : 53 + 0 ≤ _)⟩)
              dsimp only [Pt.U, Pt.locs, Pt.cells, Pt.slots] at X782 l782 y782 z782 st782 hQ782
              subst y782 z782
              obtain ⟨rfl, N782q, e782⟩ := hQ782
              have N783 : Fr n0 L782 := by rw [l782]; exact Fr.app Nj765 N782q
              have hs784 : (ffr2 q6 fz x0 x1) = ex0 := ((own_fr_2 fz x0 x1 x2 x3 q6).symm.trans ((hR.2 q6).trans (own_exj _ _ _ _ _ _ _ _ _ _ _ hex0 hex1 hex2 hex3)))
              obtain ⟨fs, hr, hrun, hended, hW, hsame⟩ := X782.leave (v := some (.int 1)) (fun h => by rw [Bd.returns] at h; cases h) Bd.notSynchronized
              refine ⟨_, _, pre775 _ ?_, hrun, hended, _, _, rfl, ?_, ⟨_, rfl⟩, hW, hsame.mono (by decide) (by decide)⟩
              · show Steps p.tables e below (Tj765.setTop (mkF m 253 #[uI p1, uL q2, uS, uL q3, uS, uL q4, uS, uL q5, uS, uL q6, uS, uI nn, uI dd, uR ix, uI (fmn dd nn), uL q2, uS, uL (fmj q2 q3), uS, uL (fmj (fmj q2 q3) q4), uS, uL (fmj (fmj (fmj q2 q3) q4) q5), uS, uL ex0, uS] [(.long q6), (.ref ix)])) _
                refine st782.trans ?_
                refine XS.lload X782.here hx rfl (hb hby at_256) rfl ?_
                refine XS.lcmp X782.here hx rfl (hb hby at_258) rfl ?_
                show Steps p.tables e below (T782.setTop (mkF m 259 #[uI p1, uL q2, uS, uL q3, uS, uL q4, uS, uL q5, uS, uL q6, uS, uI nn, uI dd, uR ix, uI (fmn dd nn), uL q2, uS, uL (fmj q2 q3), uS, uL (fmj (fmj q2 q3) q4), uS, uL (fmj (fmj (fmj q2 q3) q4) q5), uS, uL ex0, uS] [(.int (lcmpW (ffr2 q6 fz x0 x1) ex0))])) _
                refine XS.ifNo X782.here hx rfl (hb hby at_259) rfl ((if0 _ _).trans (teq ((lw_eq _ _).mpr hs784)).2) ?_
                refine XS.iconst X782.here hx rfl (hb hby at_262) ?_
                refine XS.goto X782.here hx rfl (pc0 := 263) (pc' := 267) rfl (hb hby at_263) (by decide) (by decide) ?_
                exact retN X782 hx (t := .boolean) Bd.returns (by simp) (hb hby at_267) hr
              · show Q0 Z p1 q2 q3 q4 q5 q6 w_NONE kw h0 n0 _ T782.heap _
                rw [e782]
                exact ⟨rfl, N783⟩
            ·  -- count = 3
              subst hc
              -- pc 253: BatchIndex.firstReaching by rmfr3
              obtain ⟨cq785, kq785, q785a, q785b, q785c⟩ := isOf hZ ej765 fjj2_0
              obtain ⟨_, _, ⟨T785, L785, ck785, cn785⟩, -, X785, ⟨Lc785, hQ785, l785, y785, z785⟩, st785⟩ := Xj765.virtualBack hx (y := (⟨KC, "firstReaching", "(J)J"⟩ : MethodName)) (z := (⟨KC, "firstReaching", "(J)J"⟩ : MethodName)) hown (mvT hZ (own_w hw (i := 65) rfl)) (mvT hZ (own_w hw (i := 66) rfl)) (notFace_of_selects (args := #[]) (mvT hZ (own_w hw (i := 68) rfl))) (mvT hZ (own_w hw (i := 68) rfl)) (mvT hZ (own_w hw (i := 67) rfl)) (by decide) (backOf (W := 0) (rmfr3 l Z a0 hw [] ix q6 ar kar fz x0 x1 x2 x3 x4 x5 x6 x7 hj2 n0 zsj2 fjj2_1 fjj2_2 fjj2_3 fjj2_4) hZ (own_w hw (i := 69) rfl) (own_w hw (i := 2) rfl) (by decide) (by decide)) q785a q785c (g := (mkF m 253 #[uI p1, uL q2, uS, uL q3, uS, uL q4, uS, uL q5, uS, uL q6, uS, uI nn, uI dd, uR ix, uI (fmn dd nn), uL q2, uS, uL (fmj q2 q3), uS, uL (fmj (fmj q2 q3) q4), uS, uL (fmj (fmj (fmj q2 q3) q4) q5), uS, uL ex0, uS] [(.long q6), (.ref ix)])) rfl (by rw [hml]; rfl) (Steps.refl _) (argsL := [(.long q6)]) (rest := []) (lenOf pd_335 rfl) rfl (by show 2 * 0 + _ ≤ _; exact Nat.le_of_eq rfl) (hb hby at_253) (fun _ _ => ⟨rfl, ej765, (by decide : 7 + 0 ≤ _), (by decide : 53 + 0 ≤ _)⟩)
              dsimp only [Pt.U, Pt.locs, Pt.cells, Pt.slots] at X785 l785 y785 z785 st785 hQ785
              subst y785 z785
              obtain ⟨rfl, N785q, e785⟩ := hQ785
              have N786 : Fr n0 L785 := by rw [l785]; exact Fr.app Nj765 N785q
              have hs787 : (ffr3 q6 fz x0 x1 x2) = ex0 := ((own_fr_3 fz x0 x1 x2 x3 q6).symm.trans ((hR.2 q6).trans (own_exj _ _ _ _ _ _ _ _ _ _ _ hex0 hex1 hex2 hex3)))
              obtain ⟨fs, hr, hrun, hended, hW, hsame⟩ := X785.leave (v := some (.int 1)) (fun h => by rw [Bd.returns] at h; cases h) Bd.notSynchronized
              refine ⟨_, _, pre775 _ ?_, hrun, hended, _, _, rfl, ?_, ⟨_, rfl⟩, hW, hsame.mono (by decide) (by decide)⟩
              · show Steps p.tables e below (Tj765.setTop (mkF m 253 #[uI p1, uL q2, uS, uL q3, uS, uL q4, uS, uL q5, uS, uL q6, uS, uI nn, uI dd, uR ix, uI (fmn dd nn), uL q2, uS, uL (fmj q2 q3), uS, uL (fmj (fmj q2 q3) q4), uS, uL (fmj (fmj (fmj q2 q3) q4) q5), uS, uL ex0, uS] [(.long q6), (.ref ix)])) _
                refine st785.trans ?_
                refine XS.lload X785.here hx rfl (hb hby at_256) rfl ?_
                refine XS.lcmp X785.here hx rfl (hb hby at_258) rfl ?_
                show Steps p.tables e below (T785.setTop (mkF m 259 #[uI p1, uL q2, uS, uL q3, uS, uL q4, uS, uL q5, uS, uL q6, uS, uI nn, uI dd, uR ix, uI (fmn dd nn), uL q2, uS, uL (fmj q2 q3), uS, uL (fmj (fmj q2 q3) q4), uS, uL (fmj (fmj (fmj q2 q3) q4) q5), uS, uL ex0, uS] [(.int (lcmpW (ffr3 q6 fz x0 x1 x2) ex0))])) _
                refine XS.ifNo X785.here hx rfl (hb hby at_259) rfl ((if0 _ _).trans (teq ((lw_eq _ _).mpr hs787)).2) ?_
                refine XS.iconst X785.here hx rfl (hb hby at_262) ?_
                refine XS.goto X785.here hx rfl (pc0 := 263) (pc' := 267) rfl (hb hby at_263) (by decide) (by decide) ?_
                exact retN X785 hx (t := .boolean) Bd.returns (by simp) (hb hby at_267) hr
              · show Q0 Z p1 q2 q3 q4 q5 q6 w_NONE kw h0 n0 _ T785.heap _
                rw [e785]
                exact ⟨rfl, N786⟩
            ·  -- count = 4
              subst hc
              -- pc 253: BatchIndex.firstReaching by rmfr4
              obtain ⟨cq788, kq788, q788a, q788b, q788c⟩ := isOf hZ ej765 fjj2_0
              obtain ⟨_, _, ⟨T788, L788, ck788, cn788⟩, -, X788, ⟨Lc788, hQ788, l788, y788, z788⟩, st788⟩ := Xj765.virtualBack hx (y := (⟨KC, "firstReaching", "(J)J"⟩ : MethodName)) (z := (⟨KC, "firstReaching", "(J)J"⟩ : MethodName)) hown (mvT hZ (own_w hw (i := 65) rfl)) (mvT hZ (own_w hw (i := 66) rfl)) (notFace_of_selects (args := #[]) (mvT hZ (own_w hw (i := 68) rfl))) (mvT hZ (own_w hw (i := 68) rfl)) (mvT hZ (own_w hw (i := 67) rfl)) (by decide) (backOf (W := 0) (rmfr4 l Z a0 hw [] ix q6 ar kar fz x0 x1 x2 x3 x4 x5 x6 x7 hj2 n0 zsj2 fjj2_1 fjj2_2 fjj2_3 fjj2_4) hZ (own_w hw (i := 69) rfl) (own_w hw (i := 2) rfl) (by decide) (by decide)) q788a q788c (g := (mkF m 253 #[uI p1, uL q2, uS, uL q3, uS, uL q4, uS, uL q5, uS, uL q6, uS, uI nn, uI dd, uR ix, uI (fmn dd nn), uL q2, uS, uL (fmj q2 q3), uS, uL (fmj (fmj q2 q3) q4), uS, uL (fmj (fmj (fmj q2 q3) q4) q5), uS, uL ex0, uS] [(.long q6), (.ref ix)])) rfl (by rw [hml]; rfl) (Steps.refl _) (argsL := [(.long q6)]) (rest := []) (lenOf pd_335 rfl) rfl (by show 2 * 0 + _ ≤ _; exact Nat.le_of_eq rfl) (hb hby at_253) (fun _ _ => ⟨rfl, ej765, (by decide : 7 + 0 ≤ _), (by decide : 53 + 0 ≤ _)⟩)
              dsimp only [Pt.U, Pt.locs, Pt.cells, Pt.slots] at X788 l788 y788 z788 st788 hQ788
              subst y788 z788
              obtain ⟨rfl, N788q, e788⟩ := hQ788
              have N789 : Fr n0 L788 := by rw [l788]; exact Fr.app Nj765 N788q
              have hs790 : (ffr4 q6 fz x0 x1 x2 x3) = ex0 := ((own_fr_4 fz x0 x1 x2 x3 q6).symm.trans ((hR.2 q6).trans (own_exj _ _ _ _ _ _ _ _ _ _ _ hex0 hex1 hex2 hex3)))
              obtain ⟨fs, hr, hrun, hended, hW, hsame⟩ := X788.leave (v := some (.int 1)) (fun h => by rw [Bd.returns] at h; cases h) Bd.notSynchronized
              refine ⟨_, _, pre775 _ ?_, hrun, hended, _, _, rfl, ?_, ⟨_, rfl⟩, hW, hsame.mono (by decide) (by decide)⟩
              · show Steps p.tables e below (Tj765.setTop (mkF m 253 #[uI p1, uL q2, uS, uL q3, uS, uL q4, uS, uL q5, uS, uL q6, uS, uI nn, uI dd, uR ix, uI (fmn dd nn), uL q2, uS, uL (fmj q2 q3), uS, uL (fmj (fmj q2 q3) q4), uS, uL (fmj (fmj (fmj q2 q3) q4) q5), uS, uL ex0, uS] [(.long q6), (.ref ix)])) _
                refine st788.trans ?_
                refine XS.lload X788.here hx rfl (hb hby at_256) rfl ?_
                refine XS.lcmp X788.here hx rfl (hb hby at_258) rfl ?_
                show Steps p.tables e below (T788.setTop (mkF m 259 #[uI p1, uL q2, uS, uL q3, uS, uL q4, uS, uL q5, uS, uL q6, uS, uI nn, uI dd, uR ix, uI (fmn dd nn), uL q2, uS, uL (fmj q2 q3), uS, uL (fmj (fmj q2 q3) q4), uS, uL (fmj (fmj (fmj q2 q3) q4) q5), uS, uL ex0, uS] [(.int (lcmpW (ffr4 q6 fz x0 x1 x2 x3) ex0))])) _
                refine XS.ifNo X788.here hx rfl (hb hby at_259) rfl ((if0 _ _).trans (teq ((lw_eq _ _).mpr hs790)).2) ?_
                refine XS.iconst X788.here hx rfl (hb hby at_262) ?_
                refine XS.goto X788.here hx rfl (pc0 := 263) (pc' := 267) rfl (hb hby at_263) (by decide) (by decide) ?_
                exact retN X788 hx (t := .boolean) Bd.returns (by simp) (hb hby at_267) hr
              · show Q0 Z p1 q2 q3 q4 q5 q6 w_NONE kw h0 n0 _ T788.heap _
                rw [e788]
                exact ⟨rfl, N789⟩
theorem own_feq {args : Array Value} {s : State} {t : Term} {C n d : String} {k : Int32} {x : Addr} (ev : t.eval args s none [] s = some (.ref x)) (h : (Jvm.Cond.eq (.field t C n d) (.int k)).value args s none s [] = some true) : Fld s s.heap x C n d (.int k) := by
  apply Fld.start
  have e := fld_at (C := C) (n := n) (dd := d) ev
  simp only [Cond.value, e] at h
  cases hq : s.fieldOf? x C n d with
  | none => simp [hq] at h
  | some v => cases v <;> simp [hq, Term.eval] at h ⊢; exact h
theorem own_seq {args : Array Value} {s : State} {t : Term} {k : Int32} (h : (Jvm.Cond.eq t (.int k)).value args s none s [] = some true) : t.eval args s none [] s = some (.int k) := by
  simp only [Cond.value] at h
  cases hq : t.eval args s none [] s with
  | none => simp [hq] at h
  | some v => cases v <;> simp [hq, Term.eval] at h ⊢; exact h
theorem own_v0 {s : State} {args : Array Value} {t : Term} {x : Addr} {cl : Cell} {d : Value} (hf : Fit s) (A : Arr s s.heap x cl .long) (ev : t.eval args s none [] s = some (.ref x)) (hl : (Term.length t).eval args s none [] s = some (.int 0)) : Arv s s.heap x cl.cls .long (0 : Int32) [] d := by
  have ha : s.arrayAt? x = some cl := Arr.fin (State.Warmed39.refl s).alike A
  simp only [Term.eval, ev, ha, Option.bind_eq_bind, Option.bind_some, Option.pure_def] at hl
  split at hl
  · rename_i q
    have e : cl.slots.size.toInt32 = (0 : Int32) := by simpa using hl
    exact Arv.start hf A q e (by decide) rfl trivial
  · cases hl
set_option maxRecDepth 65536 in
set_option maxHeartbeats 40000000 in
theorem comes_1 {Post : Tables → Env → Array Value → State → Outcome → State → Prop} (hpost : ∀ tb e args s v u, (limb_1_1.after args s (.returned v) u = true ∧ limb_1_2.after args s (.returned v) u = true ∧ True) → FrameEnd s (.returned v) u (Jvm.fieldLocs frame_1_writes args s ++ Jvm.arrayLocs frame_1_arrays args s ++ Jvm.staticLocs frame_1_statics s) 24 192 → Post tb e args s (.returned v) u) :
    ArmFor flags0 classFile x code maxLocals ret World_1 tables_1 room_1 Calls_1 rest_1 Pre_1 Post := by
  intro l hfl _ _ p e ha hc hk s m args below hf hA hF happ hP
  obtain ⟨hcalls, hrest, hpre⟩ := hP
  obtain ⟨-, -, -, hnamed, -, -, -, hat⟩ := (Spec.applies_iff hf).mp happ
  obtain ⟨hg, hn⟩ := and_e (Cond.before_iff.mp (show (Jvm.Cond.and given_1 narrow_1).before args s = true from hpre))
  obtain ⟨gv1, gv2⟩ := and_e hg
  obtain ⟨gv3, gv4⟩ := and_e gv2
  obtain ⟨gv5, gv6⟩ := and_e gv4
  obtain ⟨gv7, gv8⟩ := and_e gv6
  obtain ⟨gv9, gv10⟩ := and_e gv8
  obtain ⟨gv11, gv12⟩ := and_e gv10
  obtain ⟨gv13, gv14⟩ := and_e hn
  obtain ⟨gv15, gv16⟩ := and_e gv14
  obtain ⟨w0, w1, w2, w3, w4, w5, rfl⟩ : ∃ w0 w1 w2 w3 w4 w5 : Value, args = #[w0, w1, w2, w3, w4, w5] := by
    have hs : args.size = 6 := by simpa [Cond.value, given_1] using gv1
    obtain ⟨L⟩ := args
    match L, hs with
    | [w0, w1, w2, w3, w4, w5], _ => exact ⟨w0, w1, w2, w3, w4, w5, rfl⟩
  have hw := fun d (hd : d ∈ tables_1) => atoms_spec (ws := Jvm.Cond.code x code maxLocals ret :: tables_1) hat d (List.mem_cons_of_mem _ hd)
  obtain ⟨i0, ei0⟩ := is_v gv3
  obtain rfl : w0 = (.int i0) := Option.some.inj ei0
  obtain ⟨i1, ei1⟩ := isL_v gv5
  obtain rfl : w1 = (.long i1) := Option.some.inj ei1
  obtain ⟨i2, ei2⟩ := isL_v gv7
  obtain rfl : w2 = (.long i2) := Option.some.inj ei2
  obtain ⟨i3, ei3⟩ := isL_v gv9
  obtain rfl : w3 = (.long i3) := Option.some.inj ei3
  obtain ⟨i4, ei4⟩ := isL_v gv11
  obtain rfl : w4 = (.long i4) := Option.some.inj ei4
  obtain ⟨i5, ei5⟩ := isL_v gv12
  obtain rfl : w5 = (.long i5) := Option.some.inj ei5
  have O0 := Old.start s
  have hfit : Fit s := fun {y c} hc i hi => by
    obtain ⟨ha, rfl⟩ := Array.getElem?_eq_some_iff.mp hc
    have q := List.all_eq_true.mp ((Array.all_eq_true_iff_forall_mem.mp hF) _ (Array.getElem_mem ha)) i (List.mem_range.mpr hi)
    simpa [Array.getElem?_eq_getElem hi] using q
  obtain ⟨w_NONE, evN⟩ := exa_v gv15
  have S_N := Sta.start evN (Or.inr ⟨(own_w hw (i := 2) rfl), (own_w hw (i := 10) rfl)⟩)
  have E_N := Exa.start evN gv15
  obtain ⟨cN, A_N⟩ := Arr.start evN gv13
  have V_N := own_v0 (d := .long 0) hfit A_N evN (own_seq gv16)
  obtain ⟨n, o, h1, h2, h3, _, L, rfl, ⟨rfl, N⟩, hq⟩ := rm0 l s _ hw tables_1 i0 i1 i2 i3 i4 i5 w_NONE cN.cls s.heap s.heap.size (Nat.le_refl _) O0 S_N E_N V_N p e ha hc hk s m _ below hf ((Spec.applies_iff_loose hf).mp happ).1 ⟨rfl, State.Warmed39.refl s, rfl⟩ trivial
  refine ⟨n, _, h1, h2, h3, hpost _ _ _ _ _ _ ⟨Cond.after_iff.mpr rfl, Cond.after_iff.mpr (eq_i res_at (Term.int_eval (1)) rfl), trivial⟩ ⟨hq.1, hq.2.1, (hq.2.2.sift fun y hy => Or.inr (N y hy)).mono (by decide) (by decide)⟩⟩
theorem main_1_1 : Claimed_1_1 := comes_1 fun _ _ _ _ _ _ h hF => ⟨h.1, hF⟩
theorem main_1_2 : Claimed_1_2 := comes_1 fun _ _ _ _ _ _ h hF => ⟨h.2.1, hF⟩
end Jvm.Pilot.@@N@@
namespace Jvm.Pilot.@@N@@
open Jvm Jvm.ClassFile Sem Op Lib Jvm.Free Jvm.Stand Jvm.Pilot.@@N@@.Jvm.D
/-! MADE BY PROGRAM (witnessworld.py) out of the Statement's table words and the real class files: 14 classes; the members and pool entries that the words name. The judged class is class 1, her method 1. -/
namespace start1
open Jvm.ClassFile
def u (s : String) : CpInfo := .utf8 (stringToUtf16 s)
/-- a pool by its gaps: so many unusable entries, then the entry; so many at the end -/
def gap : Nat → List CpInfo → List CpInfo
  | 0, r => r
  | n + 1, r => .unusable :: gap n r
def poolList (es : List (Nat × CpInfo)) (last : Nat) : List CpInfo := es.foldr (fun e r => gap e.1 (e.2 :: r)) (gap last [])
def pool (es : List (Nat × CpInfo)) (last : Nat) : Array CpInfo := ⟨poolList es last⟩
def fileOf (pool : Array CpInfo) (this : Nat) (attrs : Array Attribute := #[]) (ms : Array MethodInfo := #[]) (fl : Nat := 33) (sup : Nat := 0) (ifs : Array Nat := #[]) (fds : Array FieldInfo := #[]) : ClassFile where
  minorVersion := 0
  majorVersion := 65
  constantPool := pool
  accessFlags := fl
  thisClass := this
  superClass := sup
  interfaces := ifs
  fields := fds
  methods := ms
  attributes := attrs
def plain (name : String) (sup : Option ClassId) : Class where
  name := name
  kind := .ordinary
  loader := none
  accessFlags := 33
  super := sup
  interfaces := #[]
  cf := none
  fields := #[]
  methods := #[]
  instanceTypes := #[]
  staticTypes := #[]
  resolved := #[]
  callSites := []
  init := .initialized
  statics := none
  mirror := none

def pool0 : Array CpInfo := pool [(5, u "<init>"), (0, u "()V"), (1, .class_ 10), (1, u "java/lang/Object"), (85, u "clone"), (0, u "()Ljava/lang/Object;")] 26

def k0c0 : Code := { maxStack := 0, maxLocals := 1, code := object_method_1_code, exceptionTable := #[], attributes := #[] }
def k0m0 : Method := { name := "<init>", desc := "()V", sig := { parameters := [], returnType := none }, accessFlags := 1, code := some k0c0 }
def k0m1 : Method := { name := "clone", desc := "()Ljava/lang/Object;", sig := { parameters := [], returnType := some (.object "java/lang/Object") }, accessFlags := 260, code := none }
/-- java/lang/Object -/
def k0 : Class := { plain "java/lang/Object" none with
  accessFlags := 33
  interfaces := #[]
  cf := some (fileOf pool0 8 #[] #[{ accessFlags := 1, nameIndex := 5, descriptorIndex := 6, attributes := #[] }, { accessFlags := 260, nameIndex := 96, descriptorIndex := 97, attributes := #[] }] 33 0 #[] #[])
  fields := #[]
  methods := #[k0m0, k0m1]
  instanceTypes := #[]
  staticTypes := #[]
  resolved := Array.replicate 124 none
  statics := none }

def pool1 : Array CpInfo := pool [(2, .class_ 4), (0, .nameAndType 5 6), (0, u "java/lang/Object"), (0, u "<init>"), (0, u "()V"), (0, .class_ 8), (0, u "com/example/consort/consort/storage/BatchIndex"), (0, .methodref 7 3), (0, .long 10), (1, .methodref 7 13), (0, .nameAndType 14 15), (0, u "add"), (0, u "(JJJ)V"), (0, .long 100), (1, .long 20), (1, .long 200), (1, .long 30), (1, .long 300), (1, .long 40), (1, .methodref 7 29), (0, .nameAndType 30 31), (0, u "dropBefore"), (0, u "(J)V"), (0, .methodref 33 34), (0, .class_ 35), (0, .nameAndType 36 37), (0, u "java/lang/Math"), (0, u "min"), (0, u "(II)I"), (0, .methodref 33 39), (0, .nameAndType 40 41), (0, u "max"), (0, u "(JJ)J"), (0, .long 3), (1, .long 2), (1, .methodref 7 47), (0, .nameAndType 48 49), (0, u "firstReaching"), (0, u "(J)J"), (0, .class_ 51), (0, u "com/example/consort/consort/storage/BatchIndexFirstReachingPinLaw"), (2, u "law"), (0, u "(IJJJJJ)Z")] 3

def k1m0 : Method := { name := "<init>", desc := "()V", sig := { parameters := [], returnType := none }, accessFlags := 1, code := none }
def k1c1 : Code := { maxStack := 7, maxLocals := 25, code := code, exceptionTable := #[], attributes := #[] }
def k1m1 : Method := { name := "law", desc := "(IJJJJJ)Z", sig := { parameters := [.int, .long, .long, .long, .long, .long], returnType := some .boolean }, accessFlags := 9, code := some k1c1 }
/-- com/example/consort/consort/storage/BatchIndexFirstReachingPinLaw -/
def k1 : Class := { plain "com/example/consort/consort/storage/BatchIndexFirstReachingPinLaw" (some 0) with
  accessFlags := 49
  interfaces := #[]
  cf := some (fileOf pool1 50 #[] #[{ accessFlags := 1, nameIndex := 5, descriptorIndex := 6, attributes := #[] }, { accessFlags := 9, nameIndex := 54, descriptorIndex := 55, attributes := #[] }] 49 2 #[] #[])
  fields := #[]
  methods := #[k1m0, k1m1]
  instanceTypes := #[]
  staticTypes := #[]
  resolved := Array.replicate 59 none
  statics := none }

def pool2 : Array CpInfo := pool [(1, .methodref 2 3), (0, .class_ 4), (0, .nameAndType 5 6), (0, u "java/lang/Object"), (0, u "<init>"), (0, u "()V"), (0, .fieldref 8 9), (0, .class_ 10), (0, .nameAndType 11 12), (0, u "com/example/consort/consort/storage/BatchIndex"), (0, u "NONE"), (0, u "[J"), (0, .fieldref 8 14), (0, .nameAndType 15 12), (0, u "baseOffsets"), (0, .fieldref 8 17), (0, .nameAndType 18 12), (0, u "positions"), (0, .fieldref 8 20), (0, .nameAndType 21 12), (0, u "maxTimestampsSoFar"), (0, .fieldref 8 23), (0, .nameAndType 24 25), (0, u "count"), (0, u "I"), (0, .methodref 27 28), (0, .class_ 29), (0, .nameAndType 30 31), (0, u "java/lang/Math"), (0, u "max"), (0, u "(II)I"), (0, .methodref 8 33), (0, .nameAndType 34 35), (0, u "resize"), (0, u "(I)V"), (0, .methodref 27 37), (0, .nameAndType 30 38), (0, u "(JJ)J"), (0, .fieldref 8 40), (0, .nameAndType 41 42), (0, u "first"), (0, u "J"), (4, .methodref 8 48), (0, .nameAndType 49 50), (0, u "lastAtOrBefore"), (0, u "([JJ)I"), (0, .methodref 52 53), (0, .class_ 54), (0, .nameAndType 55 56), (0, u "java/lang/System"), (0, u "arraycopy"), (0, u "(Ljava/lang/Object;ILjava/lang/Object;II)V"), (0, .methodref 58 59), (0, .class_ 60), (0, .nameAndType 61 62), (0, u "java/util/Arrays"), (0, u "copyOf"), (0, u "([JI)[J"), (3, .methodref 58 67), (0, .nameAndType 68 69), (0, u "binarySearch"), (0, u "([JIIJ)I"), (0, u "FIRST_CAPACITY"), (4, u "add"), (0, u "(JJJ)V"), (6, u "(J)J"), (3, u "firstReaching"), (0, u "dropBefore"), (0, u "(J)V")] 3

def k2c0 : Code := { maxStack := 2, maxLocals := 1, code := prog_126_method_1_code, exceptionTable := #[], attributes := #[] }
def k2m0 : Method := { name := "<init>", desc := "()V", sig := { parameters := [], returnType := none }, accessFlags := 0, code := some k2c0 }
def k2c1 : Code := { maxStack := 7, maxLocals := 7, code := prog_126_method_2_code, exceptionTable := #[], attributes := #[] }
def k2m1 : Method := { name := "add", desc := "(JJJ)V", sig := { parameters := [.long, .long, .long], returnType := none }, accessFlags := 0, code := some k2c1 }
def k2c2 : Code := { maxStack := 4, maxLocals := 6, code := prog_126_method_10_code, exceptionTable := #[], attributes := #[] }
def k2m2 : Method := { name := "firstReaching", desc := "(J)J", sig := { parameters := [.long], returnType := some .long }, accessFlags := 0, code := some k2c2 }
def k2c3 : Code := { maxStack := 6, maxLocals := 4, code := prog_126_method_11_code, exceptionTable := #[], attributes := #[] }
def k2m3 : Method := { name := "dropBefore", desc := "(J)V", sig := { parameters := [.long], returnType := none }, accessFlags := 0, code := some k2c3 }
def k2c4 : Code := { maxStack := 3, maxLocals := 2, code := prog_126_method_12_code, exceptionTable := #[], attributes := #[] }
def k2m4 : Method := { name := "resize", desc := "(I)V", sig := { parameters := [.int], returnType := none }, accessFlags := 2, code := some k2c4 }
def k2c5 : Code := { maxStack := 5, maxLocals := 5, code := prog_126_method_14_code, exceptionTable := #[], attributes := #[] }
def k2m5 : Method := { name := "lastAtOrBefore", desc := "([JJ)I", sig := { parameters := [(.array .long), .long], returnType := some .int }, accessFlags := 2, code := some k2c5 }
/-- com/example/consort/consort/storage/BatchIndex -/
def k2 : Class := { plain "com/example/consort/consort/storage/BatchIndex" (some 0) with
  accessFlags := 32
  interfaces := #[]
  cf := some (fileOf pool2 8 #[] #[{ accessFlags := 0, nameIndex := 5, descriptorIndex := 6, attributes := #[] }, { accessFlags := 0, nameIndex := 75, descriptorIndex := 76, attributes := #[] }, { accessFlags := 0, nameIndex := 87, descriptorIndex := 83, attributes := #[] }, { accessFlags := 0, nameIndex := 88, descriptorIndex := 89, attributes := #[] }, { accessFlags := 2, nameIndex := 34, descriptorIndex := 35, attributes := #[] }, { accessFlags := 2, nameIndex := 49, descriptorIndex := 50, attributes := #[] }] 32 2 #[] #[{ accessFlags := 26, nameIndex := 70, descriptorIndex := 25, attributes := #[] }, { accessFlags := 26, nameIndex := 11, descriptorIndex := 12, attributes := #[] }, { accessFlags := 2, nameIndex := 15, descriptorIndex := 12, attributes := #[] }, { accessFlags := 2, nameIndex := 18, descriptorIndex := 12, attributes := #[] }, { accessFlags := 2, nameIndex := 21, descriptorIndex := 12, attributes := #[] }, { accessFlags := 2, nameIndex := 24, descriptorIndex := 25, attributes := #[] }, { accessFlags := 2, nameIndex := 41, descriptorIndex := 42, attributes := #[] }])
  fields := #[{ name := "FIRST_CAPACITY", type := .int, accessFlags := 26, slot := 0, constantValue := 0 }, { name := "NONE", type := (.array .long), accessFlags := 26, slot := 1, constantValue := 0 }, { name := "baseOffsets", type := (.array .long), accessFlags := 2, slot := 0, constantValue := 0 }, { name := "positions", type := (.array .long), accessFlags := 2, slot := 1, constantValue := 0 }, { name := "maxTimestampsSoFar", type := (.array .long), accessFlags := 2, slot := 2, constantValue := 0 }, { name := "count", type := .int, accessFlags := 2, slot := 3, constantValue := 0 }, { name := "first", type := .long, accessFlags := 2, slot := 4, constantValue := 0 }]
  methods := #[k2m0, k2m1, k2m2, k2m3, k2m4, k2m5]
  instanceTypes := #[(.array .long), (.array .long), (.array .long), .int, .long]
  staticTypes := #[.int, (.array .long)]
  resolved := Array.replicate 93 none
  statics := some 0 }

def pool3 : Array CpInfo := pool [(2, .class_ 4), (1, u "java/lang/Object"), (0, u "<init>"), (0, u "()V"), (6, .methodref 14 15), (0, .class_ 16), (0, .nameAndType 17 18), (0, u "java/util/Arrays"), (0, u "rangeCheck"), (0, u "(III)V"), (55, .class_ 76), (1, u "java/util/Arrays$NaturalOrder"), (32, u "()Ljava/lang/Object;"), (3, .class_ 115), (1, u "java/util/Arrays$LegacyMergeSort"), (1, u "Z"), (10, .nameAndType 129 109), (0, u "clone"), (20, .methodref 151 152), (0, .class_ 153), (0, .nameAndType 154 155), (0, u "java/lang/System"), (0, u "arraycopy"), (0, u "(Ljava/lang/Object;ILjava/lang/Object;II)V"), (49, .methodref 14 206), (0, .nameAndType 207 208), (0, u "binarySearch0"), (0, u "([JIIJ)I"), (93, u "copyOf"), (1, .methodref 305 306), (0, .class_ 307), (0, .nameAndType 308 309), (0, u "java/lang/Math"), (0, u "min"), (0, u "(II)I"), (9, .methodref 320 128), (0, .class_ 321), (0, u "[J"), (53, .class_ 376), (0, u "java/util/Arrays$ArrayList"), (68, u "$assertionsDisabled"), (269, u "MIN_ARRAY_SORT_GRAN"), (0, u "I"), (2, u "INSERTIONSORT_THRESHOLD"), (74, u "binarySearch"), (77, u "([JI)[J"), (102, .class_ 976), (0, u "java/util/Arrays$ArrayItr")] 52

def k3m0 : Method := { name := "<init>", desc := "()V", sig := { parameters := [], returnType := none }, accessFlags := 2, code := none }
def k3c1 : Code := { maxStack := 4, maxLocals := 3, code := jdk_65_method_30_code, exceptionTable := #[], attributes := #[] }
def k3m1 : Method := { name := "rangeCheck", desc := "(III)V", sig := { parameters := [.int, .int, .int], returnType := none }, accessFlags := 8, code := some k3c1 }
def k3c2 : Code := { maxStack := 5, maxLocals := 5, code := jdk_65_method_55_code, exceptionTable := #[], attributes := #[] }
def k3m2 : Method := { name := "binarySearch", desc := "([JIIJ)I", sig := { parameters := [(.array .long), .int, .int, .long], returnType := some .int }, accessFlags := 9, code := some k3c2 }
def k3c3 : Code := { maxStack := 4, maxLocals := 10, code := jdk_65_method_56_code, exceptionTable := #[], attributes := #[] }
def k3m3 : Method := { name := "binarySearch0", desc := "([JIIJ)I", sig := { parameters := [(.array .long), .int, .int, .long], returnType := some .int }, accessFlags := 10, code := some k3c3 }
def k3c4 : Code := { maxStack := 6, maxLocals := 3, code := jdk_65_method_124_code, exceptionTable := #[], attributes := #[] }
def k3m4 : Method := { name := "copyOf", desc := "([JI)[J", sig := { parameters := [(.array .long), .int], returnType := some (.array .long) }, accessFlags := 9, code := some k3c4 }
/-- java/util/Arrays -/
def k3 : Class := { plain "java/util/Arrays" (some 0) with
  accessFlags := 49
  interfaces := #[]
  cf := some (fileOf pool3 14 #[.nestMembers #[975, 375, 113, 74]] #[{ accessFlags := 2, nameIndex := 5, descriptorIndex := 6, attributes := #[] }, { accessFlags := 8, nameIndex := 17, descriptorIndex := 18, attributes := #[] }, { accessFlags := 9, nameIndex := 794, descriptorIndex := 208, attributes := #[] }, { accessFlags := 10, nameIndex := 207, descriptorIndex := 208, attributes := #[] }, { accessFlags := 9, nameIndex := 302, descriptorIndex := 872, attributes := #[] }] 49 2 #[] #[{ accessFlags := 26, nameIndex := 715, descriptorIndex := 716, attributes := #[] }, { accessFlags := 26, nameIndex := 719, descriptorIndex := 716, attributes := #[] }, { accessFlags := 4120, nameIndex := 445, descriptorIndex := 117, attributes := #[] }])
  fields := #[{ name := "MIN_ARRAY_SORT_GRAN", type := .int, accessFlags := 26, slot := 0, constantValue := 0 }, { name := "INSERTIONSORT_THRESHOLD", type := .int, accessFlags := 26, slot := 1, constantValue := 0 }, { name := "$assertionsDisabled", type := .boolean, accessFlags := 4120, slot := 2, constantValue := 0 }]
  methods := #[k3m0, k3m1, k3m2, k3m3, k3m4]
  instanceTypes := #[]
  staticTypes := #[.int, .int, .boolean]
  resolved := Array.replicate 1029 none
  statics := none }

def pool4 : Array CpInfo := pool [(2, .class_ 4), (1, u "java/lang/Object"), (0, u "<init>"), (0, u "()V"), (1, .class_ 10), (1, u "java/lang/System"), (0, u "allowSecurityManager"), (0, u "I"), (16, u "cons"), (0, u "Ljava/io/Console;"), (77, .class_ 110), (1, u "java/lang/System$CallersHolder"), (43, u "initialErrStream"), (0, u "Ljava/io/PrintStream;"), (19, u "security"), (0, u "Ljava/lang/SecurityManager;"), (31, .class_ 209), (0, u "java/lang/System$1"), (7, u "props"), (0, u "Ljava/util/Properties;"), (2, u "lineSeparator"), (0, u "Ljava/lang/String;"), (96, .class_ 321), (1, u "java/lang/System$LoggerFinder"), (5, .class_ 328), (0, u "java/lang/System$Logger"), (67, u "err"), (2, u "out"), (91, u "notSupportedJnuEncoding"), (15, u "in"), (17, u "initialIn"), (0, u "Ljava/io/InputStream;"), (35, u "bootLayer"), (0, u "Ljava/lang/ModuleLayer;"), (99, .class_ 664), (0, u "java/lang/System$2"), (9, u "NEVER"), (2, u "MAYBE"), (49, u "arraycopy"), (0, u "(Ljava/lang/Object;ILjava/lang/Object;II)V"), (72, .class_ 802), (0, u "java/lang/System$Logger$Level")] 31

def k4m0 : Method := { name := "<init>", desc := "()V", sig := { parameters := [], returnType := none }, accessFlags := 2, code := none }
def k4m1 : Method := { name := "arraycopy", desc := "(Ljava/lang/Object;ILjava/lang/Object;II)V", sig := { parameters := [(.object "java/lang/Object"), .int, (.object "java/lang/Object"), .int, .int], returnType := none }, accessFlags := 265, code := none }
/-- java/lang/System -/
def k4 : Class := { plain "java/lang/System" (some 0) with
  accessFlags := 49
  interfaces := #[]
  cf := some (fileOf pool4 8 #[.nestMembers #[319, 327, 801, 108, 663, 208]] #[{ accessFlags := 2, nameIndex := 5, descriptorIndex := 6, attributes := #[] }, { accessFlags := 265, nameIndex := 727, descriptorIndex := 728, attributes := #[] }] 49 2 #[] #[{ accessFlags := 25, nameIndex := 507, descriptorIndex := 526, attributes := #[] }, { accessFlags := 25, nameIndex := 399, descriptorIndex := 155, attributes := #[] }, { accessFlags := 25, nameIndex := 396, descriptorIndex := 155, attributes := #[] }, { accessFlags := 10, nameIndex := 525, descriptorIndex := 526, attributes := #[] }, { accessFlags := 26, nameIndex := 674, descriptorIndex := 12, attributes := #[] }, { accessFlags := 26, nameIndex := 677, descriptorIndex := 12, attributes := #[] }, { accessFlags := 10, nameIndex := 11, descriptorIndex := 12, attributes := #[] }, { accessFlags := 74, nameIndex := 175, descriptorIndex := 176, attributes := #[] }, { accessFlags := 10, nameIndex := 491, descriptorIndex := 222, attributes := #[] }, { accessFlags := 74, nameIndex := 29, descriptorIndex := 30, attributes := #[] }, { accessFlags := 74, nameIndex := 154, descriptorIndex := 155, attributes := #[] }, { accessFlags := 10, nameIndex := 217, descriptorIndex := 218, attributes := #[] }, { accessFlags := 10, nameIndex := 221, descriptorIndex := 222, attributes := #[] }, { accessFlags := 8, nameIndex := 562, descriptorIndex := 563, attributes := #[] }])
  fields := #[{ name := "in", type := (.object "java/io/InputStream"), accessFlags := 25, slot := 0, constantValue := 0 }, { name := "out", type := (.object "java/io/PrintStream"), accessFlags := 25, slot := 1, constantValue := 0 }, { name := "err", type := (.object "java/io/PrintStream"), accessFlags := 25, slot := 2, constantValue := 0 }, { name := "initialIn", type := (.object "java/io/InputStream"), accessFlags := 10, slot := 3, constantValue := 0 }, { name := "NEVER", type := .int, accessFlags := 26, slot := 4, constantValue := 0 }, { name := "MAYBE", type := .int, accessFlags := 26, slot := 5, constantValue := 0 }, { name := "allowSecurityManager", type := .int, accessFlags := 10, slot := 6, constantValue := 0 }, { name := "security", type := (.object "java/lang/SecurityManager"), accessFlags := 74, slot := 7, constantValue := 0 }, { name := "notSupportedJnuEncoding", type := (.object "java/lang/String"), accessFlags := 10, slot := 8, constantValue := 0 }, { name := "cons", type := (.object "java/io/Console"), accessFlags := 74, slot := 9, constantValue := 0 }, { name := "initialErrStream", type := (.object "java/io/PrintStream"), accessFlags := 74, slot := 10, constantValue := 0 }, { name := "props", type := (.object "java/util/Properties"), accessFlags := 10, slot := 11, constantValue := 0 }, { name := "lineSeparator", type := (.object "java/lang/String"), accessFlags := 10, slot := 12, constantValue := 0 }, { name := "bootLayer", type := (.object "java/lang/ModuleLayer"), accessFlags := 8, slot := 13, constantValue := 0 }]
  methods := #[k4m0, k4m1]
  instanceTypes := #[]
  staticTypes := #[(.object "java/io/InputStream"), (.object "java/io/PrintStream"), (.object "java/io/PrintStream"), (.object "java/io/InputStream"), .int, .int, .int, (.object "java/lang/SecurityManager"), (.object "java/lang/String"), (.object "java/io/Console"), (.object "java/io/PrintStream"), (.object "java/util/Properties"), (.object "java/lang/String"), (.object "java/lang/ModuleLayer")]
  resolved := Array.replicate 834 none
  statics := none }

def pool5 : Array CpInfo := pool [(1, .class_ 2), (0, u "java/lang/Math"), (1, .class_ 6), (1, u "java/lang/Object"), (0, u "<init>"), (0, u "()V"), (89, .class_ 100), (1, u "java/lang/Math$RandomNumberGeneratorHolder"), (20, u "(JJ)J"), (50, u "negativeZeroFloatBits"), (0, u "J"), (2, u "negativeZeroDoubleBits"), (21, u "max"), (2, u "min"), (43, u "$assertionsDisabled"), (0, u "Z"), (88, u "(II)I"), (2, u "twoToTheDoubleScaleDown"), (0, u "D"), (4, u "twoToTheDoubleScaleUp"), (9, u "E"), (3, u "PI"), (2, u "TAU"), (2, u "DEGREES_TO_RADIANS"), (0, u "RADIANS_TO_DEGREES")] 94

def k5m0 : Method := { name := "<init>", desc := "()V", sig := { parameters := [], returnType := none }, accessFlags := 2, code := none }
def k5c1 : Code := { maxStack := 2, maxLocals := 2, code := jdk_29_method_65_code, exceptionTable := #[], attributes := #[] }
def k5m1 : Method := { name := "max", desc := "(II)I", sig := { parameters := [.int, .int], returnType := some .int }, accessFlags := 9, code := some k5c1 }
def k5c2 : Code := { maxStack := 4, maxLocals := 4, code := jdk_29_method_66_code, exceptionTable := #[], attributes := #[] }
def k5m2 : Method := { name := "max", desc := "(JJ)J", sig := { parameters := [.long, .long], returnType := some .long }, accessFlags := 9, code := some k5c2 }
def k5c3 : Code := { maxStack := 2, maxLocals := 2, code := jdk_29_method_69_code, exceptionTable := #[], attributes := #[] }
def k5m3 : Method := { name := "min", desc := "(II)I", sig := { parameters := [.int, .int], returnType := some .int }, accessFlags := 9, code := some k5c3 }
/-- java/lang/Math -/
def k5 : Class := { plain "java/lang/Math" (some 0) with
  accessFlags := 49
  interfaces := #[]
  cf := some (fileOf pool5 1 #[.nestMembers #[98]] #[{ accessFlags := 2, nameIndex := 7, descriptorIndex := 8, attributes := #[] }, { accessFlags := 9, nameIndex := 198, descriptorIndex := 335, attributes := #[] }, { accessFlags := 9, nameIndex := 198, descriptorIndex := 121, attributes := #[] }, { accessFlags := 9, nameIndex := 201, descriptorIndex := 335, attributes := #[] }] 49 4 #[] #[{ accessFlags := 25, nameIndex := 354, descriptorIndex := 339, attributes := #[] }, { accessFlags := 25, nameIndex := 358, descriptorIndex := 339, attributes := #[] }, { accessFlags := 25, nameIndex := 361, descriptorIndex := 339, attributes := #[] }, { accessFlags := 26, nameIndex := 364, descriptorIndex := 339, attributes := #[] }, { accessFlags := 26, nameIndex := 365, descriptorIndex := 339, attributes := #[] }, { accessFlags := 26, nameIndex := 172, descriptorIndex := 173, attributes := #[] }, { accessFlags := 26, nameIndex := 176, descriptorIndex := 173, attributes := #[] }, { accessFlags := 8, nameIndex := 344, descriptorIndex := 339, attributes := #[] }, { accessFlags := 8, nameIndex := 338, descriptorIndex := 339, attributes := #[] }, { accessFlags := 4120, nameIndex := 245, descriptorIndex := 246, attributes := #[] }])
  fields := #[{ name := "E", type := .double, accessFlags := 25, slot := 0, constantValue := 0 }, { name := "PI", type := .double, accessFlags := 25, slot := 1, constantValue := 0 }, { name := "TAU", type := .double, accessFlags := 25, slot := 2, constantValue := 0 }, { name := "DEGREES_TO_RADIANS", type := .double, accessFlags := 26, slot := 3, constantValue := 0 }, { name := "RADIANS_TO_DEGREES", type := .double, accessFlags := 26, slot := 4, constantValue := 0 }, { name := "negativeZeroFloatBits", type := .long, accessFlags := 26, slot := 5, constantValue := 0 }, { name := "negativeZeroDoubleBits", type := .long, accessFlags := 26, slot := 6, constantValue := 0 }, { name := "twoToTheDoubleScaleUp", type := .double, accessFlags := 8, slot := 7, constantValue := 0 }, { name := "twoToTheDoubleScaleDown", type := .double, accessFlags := 8, slot := 8, constantValue := 0 }, { name := "$assertionsDisabled", type := .boolean, accessFlags := 4120, slot := 9, constantValue := 0 }]
  methods := #[k5m0, k5m1, k5m2, k5m3]
  instanceTypes := #[]
  staticTypes := #[.double, .double, .double, .double, .double, .long, .long, .double, .double, .boolean]
  resolved := Array.replicate 460 none
  statics := none }

def pool6 : Array CpInfo := pool [(1, .class_ 2), (0, u "java/lang/Cloneable"), (0, .class_ 4), (0, u "java/lang/Object")] 2

/-- java/lang/Cloneable -/
def k6 : Class := { plain "java/lang/Cloneable" (some 0) with
  accessFlags := 1537
  interfaces := #[]
  cf := some (fileOf pool6 1 #[] #[] 1537 3 #[] #[])
  fields := #[]
  methods := #[]
  instanceTypes := #[]
  staticTypes := #[]
  resolved := Array.replicate 7 none
  statics := none }

def pool7 : Array CpInfo := pool [(1, u "java/io/Serializable"), (0, .class_ 1), (0, u "java/lang/Object"), (0, .class_ 3)] 3

/-- java/io/Serializable -/
def k7 : Class := { plain "java/io/Serializable" (some 0) with
  accessFlags := 1537
  interfaces := #[]
  cf := some (fileOf pool7 2 #[] #[] 1537 4 #[] #[])
  fields := #[]
  methods := #[]
  instanceTypes := #[]
  staticTypes := #[]
  resolved := Array.replicate 8 none
  statics := none }

/-- the primitive byte -/
def k8 : Class := { plain "byte" none with kind := .primitive 'B', accessFlags := 0x411 }
/-- [B -/
def k9 : Class := { plain "[B" (some 0) with kind := .array 8 .byte, interfaces := #[6, 7], accessFlags := 1041 }

/-- the primitive int -/
def k10 : Class := { plain "int" none with kind := .primitive 'I', accessFlags := 0x411 }
/-- [I -/
def k11 : Class := { plain "[I" (some 0) with kind := .array 10 .int, interfaces := #[6, 7], accessFlags := 1041 }

/-- the primitive long -/
def k12 : Class := { plain "long" none with kind := .primitive 'J', accessFlags := 0x411 }
/-- [J -/
def k13 : Class := { plain "[J" (some 0) with kind := .array 12 .long, interfaces := #[6, 7], accessFlags := 1041 }

def heap : Heap := #[{ cls := 2, slots := #[.int 0, .ref 1], vm := .statics 2 },
  { cls := 13, slots := #[], vm := .none }]
def classes : Array Class := #[k0, k1, k2, k3, k4, k5, k6, k7, k8, k9, k10, k11, k12, k13]
def interned : List (Array UInt16 × Addr) := []
def slotsUsed : Nat := 2
def theMethod : MethodId := ⟨1, 1⟩
def args0 : Array Value := #[.int 3, .long 5, .long 7, .long 6, .long 2, .long 6]
def aboutOver (below : List Frame) : State where
  vm := { classes := classes, interned := interned.toArray }
  heap := heap
  slotsUsed := slotsUsed
  threads := #[{ frames := .invoking theMethod args0 :: below }]
def below0 : List Frame := [.native { method := ⟨0, 0⟩, args := #[] }]
def about1 : State := aboutOver below0
def p0 : Program := .bare "" "" ""
def e0 : Env := launch0.env 0 0 0
theorem w_frames : about1.frames = Frame.invoking theMethod args0 :: below0 := rfl
set_option maxRecDepth 65536 in
theorem w_args : argsFit about1.vm theMethod args0 = true := by decide +kernel
set_option maxRecDepth 65536 in
theorem w_heap : heapFits about1 = true := by decide +kernel
set_option maxRecDepth 65536 in
theorem w_runnable : about1.curStatus? = some .runnable := by decide +kernel
set_option maxRecDepth 65536 in
theorem w_alone : about1.alone = true := by decide +kernel
set_option maxRecDepth 65536 in
theorem w_named : about1.methodNamed? x = some theMethod := by decide +kernel
set_option maxRecDepth 65536 in
theorem w_hears : about1.hears theMethod below0 = true := by decide +kernel
set_option maxRecDepth 65536 in
theorem w_ripe : about1.ripe theMethod args0 below0 = true := by decide +kernel
theorem w_running : about1.status = .running := rfl
set_option maxRecDepth 65536 in
theorem w_room : about1.hasRoom e0.platform room_1 = true :=
  launch0.hasRoom_least _ room_1 (by decide +kernel) (by decide +kernel) (by decide +kernel) (by decide +kernel) (by decide +kernel) (by decide +kernel)
theorem allAtoms_all (ts : List Jvm.Cond) (a : Array Jvm.Value) (st : Jvm.State) : (allAtoms ts).before a st = ts.all (fun c => c.before a st) := by
  induction ts with
  | nil => rfl
  | cons c t ih =>
    show (Jvm.Cond.and c (allAtoms t)).before a st = _
    rw [Jvm.Cond.before_and, ih, List.all_cons]
def words1 : List Jvm.Cond := Jvm.Cond.code x code maxLocals ret :: tables_1
/-- a 'code' word, met by the world's own term for the bytes: nothing is compared byte by byte -/
theorem code_word {y : MethodName} {bytes : ByteArray} {mx : Nat} {rt : Option FieldType} {a : Array Value} {s : State} {m : MethodId} {meth : Method} {c : Code} (h1 : s.methodNamed? y = some m) (h2 : s.vm.method? m = some meth) (h3 : meth.code = some c) (h4 : c.code = bytes)
    (h5 : (c.maxLocals == mx && c.exceptionTable.isEmpty && decide (c.maxStack ≤ mostOperands) && decide (meth.sig.returnType = rt) && !meth.locks && decide (parseMethodDescriptor y.desc = some meth.sig)) = true) : (Jvm.Cond.code y bytes mx rt).before a s = true := by
  simp only [Bool.and_eq_true, beq_iff_eq, Bool.not_eq_true', decide_eq_true_eq] at h5
  obtain ⟨⟨⟨⟨⟨g1, g2⟩, g3⟩, g4⟩, g5⟩, g6⟩ := h5
  simp [Cond.before, Cond.holds, Cond.value, h1, h2, h3, h4, g1, g2, g3, g4, g5, g6]
def isCode : Jvm.Cond → Bool
  | .code _ _ _ _ => true
  | _ => false
theorem all_split {L : List Jvm.Cond} {P : Jvm.Cond → Bool} (h1 : L.all (fun c => isCode c || P c) = true) (h2 : ∀ c ∈ L.filter isCode, P c = true) : L.all P = true := by
  refine List.all_eq_true.mpr fun c hc => ?_
  have h := List.all_eq_true.mp h1 c hc
  rcases Bool.eq_false_or_eq_true (isCode c) with hi | hi
  · exact h2 c (List.mem_filter.mpr ⟨hc, hi⟩)
  · simpa [hi] using h
set_option maxRecDepth 65536 in
theorem w_c0 : (Jvm.Cond.code x code maxLocals ret).before args0 about1 = true := code_word (m := ⟨1, 1⟩) (meth := k1m1) (c := k1c1) (by decide +kernel) rfl rfl rfl (by decide +kernel)
set_option maxRecDepth 65536 in
theorem w_c1 : (Jvm.Cond.code ({ cls := "com/example/consort/consort/storage/BatchIndex", name := "<init>", desc := "()V" } : Jvm.MethodName) prog_126_method_1_code (1 : Nat) (Option.none : Option Jvm.ClassFile.FieldType)).before args0 about1 = true := code_word (m := ⟨2, 0⟩) (meth := k2m0) (c := k2c0) (by decide +kernel) rfl rfl rfl (by decide +kernel)
set_option maxRecDepth 65536 in
theorem w_c2 : (Jvm.Cond.code ({ cls := "java/lang/Object", name := "<init>", desc := "()V" } : Jvm.MethodName) object_method_1_code (1 : Nat) (Option.none : Option Jvm.ClassFile.FieldType)).before args0 about1 = true := code_word (m := ⟨0, 0⟩) (meth := k0m0) (c := k0c0) (by decide +kernel) rfl rfl rfl (by decide +kernel)
set_option maxRecDepth 65536 in
theorem w_c3 : (Jvm.Cond.code ({ cls := "com/example/consort/consort/storage/BatchIndex", name := "dropBefore", desc := "(J)V" } : Jvm.MethodName) prog_126_method_11_code (4 : Nat) (Option.none : Option Jvm.ClassFile.FieldType)).before args0 about1 = true := code_word (m := ⟨2, 3⟩) (meth := k2m3) (c := k2c3) (by decide +kernel) rfl rfl rfl (by decide +kernel)
set_option maxRecDepth 65536 in
theorem w_c4 : (Jvm.Cond.code ({ cls := "com/example/consort/consort/storage/BatchIndex", name := "lastAtOrBefore", desc := "([JJ)I" } : Jvm.MethodName) prog_126_method_14_code (5 : Nat) (Option.some Jvm.ClassFile.FieldType.int)).before args0 about1 = true := code_word (m := ⟨2, 5⟩) (meth := k2m5) (c := k2c5) (by decide +kernel) rfl rfl rfl (by decide +kernel)
set_option maxRecDepth 65536 in
theorem w_c5 : (Jvm.Cond.code ({ cls := "java/util/Arrays", name := "binarySearch", desc := "([JIIJ)I" } : Jvm.MethodName) jdk_65_method_55_code (5 : Nat) (Option.some Jvm.ClassFile.FieldType.int)).before args0 about1 = true := code_word (m := ⟨3, 2⟩) (meth := k3m2) (c := k3c2) (by decide +kernel) rfl rfl rfl (by decide +kernel)
set_option maxRecDepth 65536 in
theorem w_c6 : (Jvm.Cond.code ({ cls := "java/util/Arrays", name := "rangeCheck", desc := "(III)V" } : Jvm.MethodName) jdk_65_method_30_code (3 : Nat) (Option.none : Option Jvm.ClassFile.FieldType)).before args0 about1 = true := code_word (m := ⟨3, 1⟩) (meth := k3m1) (c := k3c1) (by decide +kernel) rfl rfl rfl (by decide +kernel)
set_option maxRecDepth 65536 in
theorem w_c7 : (Jvm.Cond.code ({ cls := "java/util/Arrays", name := "binarySearch0", desc := "([JIIJ)I" } : Jvm.MethodName) jdk_65_method_56_code (10 : Nat) (Option.some Jvm.ClassFile.FieldType.int)).before args0 about1 = true := code_word (m := ⟨3, 3⟩) (meth := k3m3) (c := k3c3) (by decide +kernel) rfl rfl rfl (by decide +kernel)
set_option maxRecDepth 65536 in
theorem w_c8 : (Jvm.Cond.code ({ cls := "java/lang/Math", name := "max", desc := "(II)I" } : Jvm.MethodName) jdk_29_method_65_code (2 : Nat) (Option.some Jvm.ClassFile.FieldType.int)).before args0 about1 = true := code_word (m := ⟨5, 1⟩) (meth := k5m1) (c := k5c1) (by decide +kernel) rfl rfl rfl (by decide +kernel)
set_option maxRecDepth 65536 in
theorem w_c9 : (Jvm.Cond.code ({ cls := "com/example/consort/consort/storage/BatchIndex", name := "resize", desc := "(I)V" } : Jvm.MethodName) prog_126_method_12_code (2 : Nat) (Option.none : Option Jvm.ClassFile.FieldType)).before args0 about1 = true := code_word (m := ⟨2, 4⟩) (meth := k2m4) (c := k2c4) (by decide +kernel) rfl rfl rfl (by decide +kernel)
set_option maxRecDepth 65536 in
theorem w_c10 : (Jvm.Cond.code ({ cls := "java/util/Arrays", name := "copyOf", desc := "([JI)[J" } : Jvm.MethodName) jdk_65_method_124_code (3 : Nat) (Option.some (Jvm.ClassFile.FieldType.array Jvm.ClassFile.FieldType.long))).before args0 about1 = true := code_word (m := ⟨3, 4⟩) (meth := k3m4) (c := k3c4) (by decide +kernel) rfl rfl rfl (by decide +kernel)
set_option maxRecDepth 65536 in
theorem w_c11 : (Jvm.Cond.code ({ cls := "java/lang/Math", name := "min", desc := "(II)I" } : Jvm.MethodName) jdk_29_method_69_code (2 : Nat) (Option.some Jvm.ClassFile.FieldType.int)).before args0 about1 = true := code_word (m := ⟨5, 3⟩) (meth := k5m3) (c := k5c3) (by decide +kernel) rfl rfl rfl (by decide +kernel)
set_option maxRecDepth 65536 in
theorem w_c12 : (Jvm.Cond.code ({ cls := "java/lang/Math", name := "max", desc := "(JJ)J" } : Jvm.MethodName) jdk_29_method_66_code (4 : Nat) (Option.some Jvm.ClassFile.FieldType.long)).before args0 about1 = true := code_word (m := ⟨5, 2⟩) (meth := k5m2) (c := k5c2) (by decide +kernel) rfl rfl rfl (by decide +kernel)
set_option maxRecDepth 65536 in
theorem w_c13 : (Jvm.Cond.code ({ cls := "com/example/consort/consort/storage/BatchIndex", name := "firstReaching", desc := "(J)J" } : Jvm.MethodName) prog_126_method_10_code (6 : Nat) (Option.some Jvm.ClassFile.FieldType.long)).before args0 about1 = true := code_word (m := ⟨2, 2⟩) (meth := k2m2) (c := k2c2) (by decide +kernel) rfl rfl rfl (by decide +kernel)
set_option maxRecDepth 65536 in
theorem w_c14 : (Jvm.Cond.code ({ cls := "com/example/consort/consort/storage/BatchIndex", name := "add", desc := "(JJJ)V" } : Jvm.MethodName) prog_126_method_2_code (7 : Nat) (Option.none : Option Jvm.ClassFile.FieldType)).before args0 about1 = true := code_word (m := ⟨2, 1⟩) (meth := k2m1) (c := k2c1) (by decide +kernel) rfl rfl rfl (by decide +kernel)
def codes1 : List Jvm.Cond := [Jvm.Cond.code x code maxLocals ret, Jvm.Cond.code ({ cls := "com/example/consort/consort/storage/BatchIndex", name := "<init>", desc := "()V" } : Jvm.MethodName) prog_126_method_1_code (1 : Nat) (Option.none : Option Jvm.ClassFile.FieldType), Jvm.Cond.code ({ cls := "java/lang/Object", name := "<init>", desc := "()V" } : Jvm.MethodName) object_method_1_code (1 : Nat) (Option.none : Option Jvm.ClassFile.FieldType), Jvm.Cond.code ({ cls := "com/example/consort/consort/storage/BatchIndex", name := "dropBefore", desc := "(J)V" } : Jvm.MethodName) prog_126_method_11_code (4 : Nat) (Option.none : Option Jvm.ClassFile.FieldType), Jvm.Cond.code ({ cls := "com/example/consort/consort/storage/BatchIndex", name := "lastAtOrBefore", desc := "([JJ)I" } : Jvm.MethodName) prog_126_method_14_code (5 : Nat) (Option.some Jvm.ClassFile.FieldType.int), Jvm.Cond.code ({ cls := "java/util/Arrays", name := "binarySearch", desc := "([JIIJ)I" } : Jvm.MethodName) jdk_65_method_55_code (5 : Nat) (Option.some Jvm.ClassFile.FieldType.int), Jvm.Cond.code ({ cls := "java/util/Arrays", name := "rangeCheck", desc := "(III)V" } : Jvm.MethodName) jdk_65_method_30_code (3 : Nat) (Option.none : Option Jvm.ClassFile.FieldType), Jvm.Cond.code ({ cls := "java/util/Arrays", name := "binarySearch0", desc := "([JIIJ)I" } : Jvm.MethodName) jdk_65_method_56_code (10 : Nat) (Option.some Jvm.ClassFile.FieldType.int), Jvm.Cond.code ({ cls := "java/lang/Math", name := "max", desc := "(II)I" } : Jvm.MethodName) jdk_29_method_65_code (2 : Nat) (Option.some Jvm.ClassFile.FieldType.int), Jvm.Cond.code ({ cls := "com/example/consort/consort/storage/BatchIndex", name := "resize", desc := "(I)V" } : Jvm.MethodName) prog_126_method_12_code (2 : Nat) (Option.none : Option Jvm.ClassFile.FieldType), Jvm.Cond.code ({ cls := "java/util/Arrays", name := "copyOf", desc := "([JI)[J" } : Jvm.MethodName) jdk_65_method_124_code (3 : Nat) (Option.some (Jvm.ClassFile.FieldType.array Jvm.ClassFile.FieldType.long)), Jvm.Cond.code ({ cls := "java/lang/Math", name := "min", desc := "(II)I" } : Jvm.MethodName) jdk_29_method_69_code (2 : Nat) (Option.some Jvm.ClassFile.FieldType.int), Jvm.Cond.code ({ cls := "java/lang/Math", name := "max", desc := "(JJ)J" } : Jvm.MethodName) jdk_29_method_66_code (4 : Nat) (Option.some Jvm.ClassFile.FieldType.long), Jvm.Cond.code ({ cls := "com/example/consort/consort/storage/BatchIndex", name := "firstReaching", desc := "(J)J" } : Jvm.MethodName) prog_126_method_10_code (6 : Nat) (Option.some Jvm.ClassFile.FieldType.long), Jvm.Cond.code ({ cls := "com/example/consort/consort/storage/BatchIndex", name := "add", desc := "(JJJ)V" } : Jvm.MethodName) prog_126_method_2_code (7 : Nat) (Option.none : Option Jvm.ClassFile.FieldType)]
set_option maxRecDepth 65536 in
theorem codes_eq : words1.filter isCode = codes1 := rfl
theorem w_codes : ∀ c ∈ words1.filter isCode, c.before args0 about1 = true := by
  rw [codes_eq]
  intro c hc
  simp only [codes1, List.mem_cons, List.not_mem_nil, or_false] at hc
  rcases hc with rfl | rfl | rfl | rfl | rfl | rfl | rfl | rfl | rfl | rfl | rfl | rfl | rfl | rfl | rfl
  · exact w_c0
  · exact w_c1
  · exact w_c2
  · exact w_c3
  · exact w_c4
  · exact w_c5
  · exact w_c6
  · exact w_c7
  · exact w_c8
  · exact w_c9
  · exact w_c10
  · exact w_c11
  · exact w_c12
  · exact w_c13
  · exact w_c14
set_option maxRecDepth 65536 in
theorem w_t1 : (words1.take 24).all (fun c => isCode c || c.before args0 about1) = true := by decide +kernel
set_option maxRecDepth 65536 in
theorem w_t2 : ((words1.drop 24).take 24).all (fun c => isCode c || c.before args0 about1) = true := by decide +kernel
set_option maxRecDepth 65536 in
theorem w_t3 : (((words1.drop 24).drop 24).take 24).all (fun c => isCode c || c.before args0 about1) = true := by decide +kernel
set_option maxRecDepth 65536 in
theorem w_t4 : (((words1.drop 24).drop 24).drop 24).all (fun c => isCode c || c.before args0 about1) = true := by decide +kernel
theorem w_tables : (allAtoms (Jvm.Cond.code x code maxLocals ret :: tables_1)).before args0 about1 = true := by
  rw [allAtoms_all]
  show words1.all (fun c => c.before args0 about1) = true
  refine all_split ?_ w_codes
  rw [← List.take_append_drop 24 words1, List.all_append, w_t1, ← List.take_append_drop 24 (words1.drop 24), List.all_append, w_t2, ← List.take_append_drop 24 ((words1.drop 24).drop 24), List.all_append, w_t3, w_t4]
  rfl
set_option maxRecDepth 65536 in
theorem w_case : (Jvm.Cond.and given_1 narrow_1).before args0 about1 = true := by decide +kernel
theorem w_applies : (headSpec (Jvm.Cond.code x code maxLocals ret :: tables_1) room_1).applies x e0.platform about1 = true :=
  (Spec.applies_iff w_frames).mpr ⟨w_running, w_runnable, w_alone, w_named, w_hears, w_ripe, w_room, w_tables⟩
theorem atStart : AtStart classFile x code maxLocals ret World_1 tables_1 room_1 Calls_1 rest_1 Pre_1 launch0 p0 e0 about1 theMethod args0 below0 :=
  ⟨lists_1, trivial, launch0.admits_env _ _ _, launch0.least_env, fairChoices_fair.cas, fairChoices_fair.clock, w_frames, w_args, w_heap, w_applies, trivial, trivial, w_case⟩
end start1
theorem witness_1 : WitnessClaimed_1 := ⟨start1.p0, start1.e0, start1.about1, start1.theMethod, start1.args0, start1.below0, start1.atStart⟩
end Jvm.Pilot.@@N@@
